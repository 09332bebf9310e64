import PyProof.Rows.All
import Wide.All
import OpenK.AllK
import Wide.FinOn
import PyProof.FactsBase
import PyProof.TableTree
import PyProof.FactsTree
import PyProof.PlainAttrs
import Lean
import PySem.Challenge.RW_ba0040_01
open PySem PySem.W PyProof.Rows PySem.Calls PySem.Spec
set_option Elab.async false
set_option maxRecDepth 100000
namespace Mine
set_option maxRecDepth 100000 in
set_option maxHeartbeats 8000000 in
open_top hd for PySem.Challenge.rw_ba0040_01
end Mine
namespace Mine
section
variable {prog : Program} {w : World} {A₀ A : Around} {s : Shared} {base h₀ : Heap} {outer : List Env} {L : Addr} {m : Str → Option Value} {env : Env} {K : Frag}
  {R : Result → Shared → Prop} {name qual : Str} {params : Arguments} {body : List Stmt} {scope : Scope} {dV kV doc pm cdv ct oc : Value} {an od : Option Addr} {osl : Array (Option Value)} {f : Addr} {args : Args} {binds : List (Str × Value)}
  {p : Program} {loose : List Str} {mean : ExcName → Option Value} {mg mb : Str → Option Value}
theorem code_pure (B : Below A₀ base outer h₀) (F : Fr h₀ L s.heap m) (X₀ : K.In h₀) (T : Top p loose mean mg mb h₀) (hA : A.frames = some (env :: outer)) (hf : env.frame = some L) (hke : env.scope.kind = .function)
    (ho : K.lookup f = some ⟨oc, od, .func (fnOf name qual params body scope dV kV doc pm an cdv ct), osl⟩) (hcd : codeIn K cdv qual = true) (hroom : A.depth < recursionLimit)
    (hbind : BindsTo s (fnOf name qual params body scope dV kV doc pm an cdv ct) args binds) (hloc : ∀ y ∈ binds, scope.names.lookup y.1 = some .local)
    (h : ∀ g L' h₁, g = s.heap → Fr h₀ L g m → Fr g L' h₁ (fun y => binds.reverse.lookup y) → News g L' h₁ [] → Below A base (env :: outer) g → K.In g → Top p loose mean mg mb g →
      wpAny (model prog w) (A.deeper (envOf qual scope L' f cdv)) (execs body (envOf qual scope L' f cdv))
        (fun fl s' => LeaveK h₀ L m g (fun r s' => g.StaysIn s'.heap → R r s') (match fl with | .ret v => v | _ => .none) s')
        (fun e s' => wpAny (model prog w) (A.deeper (envOf qual scope L' f cdv)) (leaving (envOf qual scope L' f cdv) e) (fun _ s'' => R (.error e) s'') (fun e' s'' => R (.error e') s'') s')
        { s with heap := h₁, toks := s.toks + binds.length })
    (hco : scope.isCoroutine = false) (hgen : scope.isGenerator = false) (hk : scope.kind = .function)
    (hcell : ∀ x ∈ scope.names, x.2 ≠ .cell) : codeAny (model prog w) A (.call (.ref f) args) R s := by
  have X : K.In s.heap := X₀.keeps F.keep
  refine codeAny_call_def (fd := fnOf name qual params body scope dV kV doc pm an cdv ct) (body := body) (binds := binds) hroom (X _ _ ho) rfl (T.nolimit.keeps F.keep) (codeRec_of X hcd) rfl hbind hcell hloc (fun h₁ hns hk₁ => ?_) hco hgen hk
  have B₁ := pushX B F hf hke
  have B₂ : Below A base (env :: outer) s.heap := ⟨hA, B₁.stays, B₁.frames⟩
  refine wpAny_mono (h s.heap s.heap.objs.size h₁ rfl F ⟨hns, hk₁, Nat.le_refl _⟩ (fun _ hp => nomatch hp) B₂ X (T.keeps F.keep)) (fun fl s' hl => ?_) fun _ _ y => y
  obtain ⟨L', m', news', F', N', k⟩ := hl
  obtain ⟨oL, es, ep, hL, hLd, hLk, hLf⟩ := F.ns
  refine k ⟨⟨oL, es, ep, F'.keep L oL hL, hLd, hLk, hLf⟩, fun b o e => F'.keep b o (F.keep b o e), F.above⟩ (fun p hp => ⟨(N' p hp).1, fun q => ?_, ?_⟩) F'.keep
  · have := (N' p hp).2.2; rw [q, hL] at this; cases this
  · cases q : h₀.get? p.1 with
    | none => rfl
    | some o => have := (N' p hp).2.2; rw [F.keep _ _ q] at this; cases this
end
/-- what a pure call hands on: the heap only grows -/
abbrev PRet (s : Shared) (Q : Value → Shared → Prop) (V : Tok → Value) : Prop := ∀ (t : Tok) (h' : Heap) (tk' : Nat), s.heap.StaysIn h' → Q (V t) { s with heap := h', toks := tk' }
abbrev PCall (prog : Program) (w : World) (p : Program) (loose : List Str) (mean : ExcName → Option Value) (mg mb : Str → Option Value) (f : Addr) (d : Nat) (vs : List Value) (V : Tok → Value) : Prop :=
  ∀ (dp un : Nat) (gd : Option (List Code)) (cn : Str) (cs : Scope) (a : Addr) (ccd : Value) (cl : List (Str × Addr)) (outer : List Env) (A₀ : Around) (base h₀ : Heap) (L : Addr) (m : Str → Option Value) (s : Shared) (Q E : Value → Shared → Prop),
    Below A₀ base outer h₀ → Fr h₀ L s.heap m → (hd.heap_39 w.params).In h₀ → Top p loose mean mg mb h₀ → cs.kind = .function → dp + d < recursionLimit → un + 8 * d < cLine →
    PRet s Q V → wpAny (model prog w) (ktrTop dp un gd cn cs L a ccd cl outer) (call (.ref f) vs) Q E s
section
variable {h' : Heap} {s : Shared} {Q : Value → Shared → Prop} {t : Tok} {tk' : Nat}
theorem p_retI {x y : Int} (hret : ∀ (t : Tok) (h' : Heap) (tk' : Nat), s.heap.StaysIn h' → Q (.int x t) { s with heap := h', toks := tk' }) (hst : s.heap.StaysIn h') (e : y = x) : Q (.int y t) { s with heap := h', toks := tk' } := by
  subst e; exact hret t h' tk' hst
theorem p_retS {x y : Str} (hret : ∀ (t : Tok) (h' : Heap) (tk' : Nat), s.heap.StaysIn h' → Q (.str x t) { s with heap := h', toks := tk' }) (hst : s.heap.StaysIn h') (e : y = x) : Q (.str y t) { s with heap := h', toks := tk' } := by
  subst e; exact hret t h' tk' hst
theorem p_retB {x y : Bool} (hret : ∀ (t : Tok) (h' : Heap) (tk' : Nat), s.heap.StaysIn h' → Q (.bool x) { s with heap := h', toks := tk' }) (hst : s.heap.StaysIn h') (e : y = x) : Q (.bool y) { s with heap := h', toks := tk' } := by
  subst e; exact hret 0 h' tk' hst
end
end Mine
namespace Mine
local macro_rules | `(tactic| walk_at "mine enter") => `(tactic| (refine' code_pure ?k1 ?k2 ?k3 ?k5 ?kA ?kF ?kK ?k6 ?k7 ?k8 ?k9 ?kB ?_ ?c2 ?c3 ?c4 ?c5; (case kA => exact rfl); (case kF => exact rfl); (case kK => assumption); (case k1 => k_asm); (case k2 => k_asm); (case k3 => k_asm); (case k5 => k_asm); (case k6 => k_is); (case k7 => k_is); (case k8 => ktr_room); (case k9 => first | exact BindsTo.of_eq rfl | exact binds_K (by k_in) rfl (by k_is) rfl rfl rfl | fail "enter: no rule for these arguments"); (case c5 => decide); (case kB => exact locs rfl); (case c2 => exact rfl); (case c3 => exact rfl); (case c4 => exact rfl); k_whole; intro g' L' h' hg' FG' F' N' B' X' T'; (try dsimp only); (try k_lift B'); (try k_fold)))
theorem sp_yes {n : Nat} (h : (Str.mk #[n] == Str.ofString " ") = true) : n = 32 := by
  have e : Str.ofString " " = Str.mk #[32] := by decide +kernel
  rw [e] at h
  have := eq_of_beq h
  simpa using this
theorem sp_no {n : Nat} (h : (Str.mk #[n] == Str.ofString " ") = false) : n ≠ 32 := by
  have e : Str.ofString " " = Str.mk #[32] := by decide +kernel
  rw [e] at h
  intro q; subst q; simp at h
theorem tb_yes {n : Nat} (h : (Str.mk #[n] == Str.ofString "\t") = true) : n = 9 := by
  have e : Str.ofString "\t" = Str.mk #[9] := by decide +kernel
  rw [e] at h
  have := eq_of_beq h
  simpa using this
theorem tb_no {n : Nat} (h : (Str.mk #[n] == Str.ofString "\t") = false) : n ≠ 9 := by
  have e : Str.ofString "\t" = Str.mk #[9] := by decide +kernel
  rw [e] at h
  intro q; subst q; simp at h
theorem codes_list (x : Str) : (KStt.codes x).map Int.toNat = x.cps.toList := by
  unfold KStt.codes
  rw [List.map_map]
  exact (List.map_congr_left (g := _root_.id) fun c _ => Int.toNat_natCast c).trans (List.map_id _)
theorem codes_cut {x : Str} {pre post : List Int} {n : Nat} (h : KStt.codes x = pre ++ (n : Int) :: post) : x.cps.toList = pre.map Int.toNat ++ n :: post.map Int.toNat := by
  rw [← codes_list, h, List.map_append, List.map_cons, Int.toNat_natCast]
def cnt : List Nat → Nat → Nat
  | [], col => col
  | c :: r, col => if c = 32 then cnt r (col + 1) else if c = 9 then cnt r (col + (4 - col % 4)) else col
structure CntInv (pre : List Int) (col : Int) : Prop where
  pos : 0 ≤ col
  eq : ∀ rest, cnt (pre.map Int.toNat ++ rest) 0 = cnt rest col.toNat
theorem CntInv.start : CntInv [] 0 := ⟨by omega, fun _ => rfl⟩
theorem CntInv.sp {pre : List Int} {col : Int} {n : Nat} (h : CntInv pre col) (e : (Str.mk #[n] == Str.ofString " ") = true) : CntInv (pre ++ [(n : Int)]) (col + 1) := by
  have := sp_yes e; subst this
  have := h.pos
  refine ⟨by omega, fun rest => ?_⟩
  have q := h.eq (32 :: rest)
  have e1 : (col + 1).toNat = col.toNat + 1 := by omega
  rw [e1]
  simpa [cnt] using q
theorem CntInv.tb {pre : List Int} {col : Int} {n : Nat} (h : CntInv pre col) (e : (Str.mk #[n] == Str.ofString "\t") = true) : CntInv (pre ++ [(n : Int)]) (col + (4 - col.fmod 4)) := by
  have := tb_yes e; subst this
  have h0 := h.pos
  have hm : col.fmod 4 = ((col.toNat % 4 : Nat) : Int) := by rw [Int.fmod_eq_emod_of_nonneg _ (by omega)]; omega
  rw [hm]
  refine ⟨by omega, fun rest => ?_⟩
  have q := h.eq (9 :: rest)
  have e1 : (col + (4 - ((col.toNat % 4 : Nat) : Int))).toNat = col.toNat + (4 - col.toNat % 4) := by omega
  rw [e1]
  simpa [cnt] using q
theorem CntInv.stop {x : Str} {pre post : List Int} {col : Int} {n : Nat} (h : CntInv pre col) (hx : KStt.codes x = pre ++ (n : Int) :: post) (e1 : (Str.mk #[n] == Str.ofString " ") = false) (e2 : (Str.mk #[n] == Str.ofString "\t") = false) :
    col = (cnt x.cps.toList 0 : Nat) := by
  rw [codes_cut hx, h.eq]
  have := h.pos
  simp only [cnt, if_neg (sp_no e1), if_neg (tb_no e2)]
  omega
theorem CntInv.over {x : Str} {col : Int} (h : CntInv (KStt.codes x) col) : col = (cnt x.cps.toList 0 : Nat) := by
  have q := h.eq []
  rw [codes_list, List.append_nil] at q
  rw [q]
  have := h.pos
  simp only [cnt]
  omega
set_option maxHeartbeats 4000000 in
theorem count_spec {prog : Program} {w : World} {p : Program} {loose : List Str} {mean : ExcName → Option Value} {mg mb : Str → Option Value}
    (x : Str) (tx : Tok) : PCall prog w p loose mean mg mb 93 1 [.str x tx] (fun t => .int (cnt x.cps.toList 0) t) := by
  intro dp un gd cn cs a ccd cl outer A₀ base h₀ L m s Q E B F X T hk hd hu hret
  refine wpAny_call ?_
  (k_with_none)
  w_top off
  k_dflt (walk_at "mine enter")
  (k_with "state" => first | exact CntInv.start | exact CntInv.sp (by assumption) (by assumption) | exact CntInv.tb (by assumption) (by assumption))
  (k_with "pyIter str" => k_state (fun pre col => CntInv pre col) "column")
  k_steps
  all_goals subst_vars
  · exact p_retI hret (by assumption) (CntInv.stop (by assumption) (by assumption) (by assumption) (by assumption))
  · exact p_retI hret (by assumption) (CntInv.over (by assumption))
end Mine
namespace Mine
local macro_rules | `(tactic| walk_at "no such way") => `(tactic| skip)
local macro_rules | `(tactic| walk_at "mine enter") => `(tactic| (refine' code_pure ?k1 ?k2 ?k3 ?k5 ?kA ?kF ?kK ?k6 ?k7 ?k8 ?k9 ?kB ?_ ?c2 ?c3 ?c4 ?c5; (case kA => exact rfl); (case kF => exact rfl); (case kK => assumption); (case k1 => k_asm); (case k2 => k_asm); (case k3 => k_asm); (case k5 => k_asm); (case k6 => k_is); (case k7 => k_is); (case k8 => ktr_room); (case k9 => first | exact BindsTo.of_eq rfl | exact binds_K (by k_in) rfl (by k_is) rfl rfl rfl | fail "enter: no rule for these arguments"); (case c5 => decide); (case kB => exact locs rfl); (case c2 => exact rfl); (case c3 => exact rfl); (case c4 => exact rfl); k_whole; intro g' L' h' hg' FG' F' N' B' X' T'; (try dsimp only); (try k_lift B'); (try k_fold)))
theorem tab_step {col : Int} (h0 : 0 ≤ col) : col + (4 - col.fmod 4) = ((col.toNat + (4 - col.toNat % 4) : Nat) : Int) := by
  have hm : col.fmod 4 = ((col.toNat % 4 : Nat) : Int) := by rw [Int.fmod_eq_emod_of_nonneg _ (by omega)]; omega
  rw [hm]; omega
def hasC (cols : Int) : List Nat → Nat → Bool
  | [], _ => false
  | c :: r, w => if c = 32 then (if cols ≤ ((w + 1 : Nat) : Int) then true else hasC cols r (w + 1))
    else if c = 9 then (if cols ≤ ((w + (4 - w % 4) : Nat) : Int) then true else hasC cols r (w + (4 - w % 4))) else false
structure HasInv (cols : Int) (pre : List Int) (col : Int) : Prop where
  pos : 0 ≤ col
  eq : ∀ rest, hasC cols (pre.map Int.toNat ++ rest) 0 = hasC cols rest col.toNat
theorem HasInv.start {cols : Int} : HasInv cols [] 0 := ⟨by omega, fun _ => rfl⟩
theorem HasInv.sp {cols : Int} {pre : List Int} {col : Int} {n : Nat} (h : HasInv cols pre col) (e : (Str.mk #[n] == Str.ofString " ") = true) (hc : ¬ (cols ≤ col + 1)) : HasInv cols (pre ++ [(n : Int)]) (col + 1) := by
  have := sp_yes e; subst this
  have := h.pos
  refine ⟨by omega, fun rest => ?_⟩
  have e1 : (col + 1).toNat = col.toNat + 1 := by omega
  have e2 : ¬ (cols ≤ ((col.toNat + 1 : Nat) : Int)) := by omega
  rw [e1, List.map_append, List.append_assoc]
  show hasC cols (pre.map Int.toNat ++ 32 :: rest) 0 = _
  rw [h.eq, hasC, if_pos rfl, if_neg e2]
theorem HasInv.spT {cols : Int} {x : Str} {pre post : List Int} {col : Int} {n : Nat} (h : HasInv cols pre col) (hx : KStt.codes x = pre ++ (n : Int) :: post) (e : (Str.mk #[n] == Str.ofString " ") = true) (hc : cols ≤ col + 1) : true = hasC cols x.cps.toList 0 := by
  have := sp_yes e; subst this
  have := h.pos
  have e2 : cols ≤ ((col.toNat + 1 : Nat) : Int) := by omega
  rw [codes_cut hx, h.eq, hasC, if_pos rfl, if_pos e2]
theorem HasInv.tb {cols : Int} {pre : List Int} {col : Int} {n : Nat} (h : HasInv cols pre col) (e : (Str.mk #[n] == Str.ofString "\t") = true) (hc : ¬ (cols ≤ col + (4 - col.fmod 4))) : HasInv cols (pre ++ [(n : Int)]) (col + (4 - col.fmod 4)) := by
  have := tb_yes e; subst this
  have h0 := h.pos
  rw [tab_step h0] at hc ⊢
  refine ⟨by omega, fun rest => ?_⟩
  rw [Int.toNat_natCast, List.map_append, List.append_assoc]
  show hasC cols (pre.map Int.toNat ++ 9 :: rest) 0 = _
  rw [h.eq, hasC, if_neg (by decide), if_pos rfl, if_neg hc]
theorem HasInv.tbT {cols : Int} {x : Str} {pre post : List Int} {col : Int} {n : Nat} (h : HasInv cols pre col) (hx : KStt.codes x = pre ++ (n : Int) :: post) (e : (Str.mk #[n] == Str.ofString "\t") = true) (hc : cols ≤ col + (4 - col.fmod 4)) : true = hasC cols x.cps.toList 0 := by
  have := tb_yes e; subst this
  have h0 := h.pos
  rw [tab_step h0] at hc
  rw [codes_cut hx, h.eq, hasC, if_neg (by decide), if_pos rfl, if_pos hc]
theorem HasInv.stop {cols : Int} {x : Str} {pre post : List Int} {col : Int} {n : Nat} (h : HasInv cols pre col) (hx : KStt.codes x = pre ++ (n : Int) :: post) (e1 : (Str.mk #[n] == Str.ofString " ") = false) (e2 : (Str.mk #[n] == Str.ofString "\t") = false) :
    false = hasC cols x.cps.toList 0 := by
  rw [codes_cut hx, h.eq]
  simp only [hasC, if_neg (sp_no e1), if_neg (tb_no e2)]
theorem HasInv.over {cols : Int} {x : Str} {col : Int} (h : HasInv cols (KStt.codes x) col) : false = hasC cols x.cps.toList 0 := by
  have q := h.eq []
  rw [codes_list, List.append_nil] at q
  rw [q]; rfl
set_option maxHeartbeats 4000000 in
theorem has_spec {prog : Program} {w : World} {p : Program} {loose : List Str} {mean : ExcName → Option Value} {mg mb : Str → Option Value}
    (x : Str) (tx : Tok) (cols : Int) (tc : Tok) : PCall prog w p loose mean mg mb 71 1 [.str x tx, .int cols tc] (fun _ => .bool (hasC cols x.cps.toList 0)) := by
  intro dp un gd cn cs a ccd cl outer A₀ base h₀ L m s Q E B F X T hk hd hu hret
  refine wpAny_call ?_
  (k_with_none)
  w_top off
  k_dflt (walk_at "mine enter")
  (k_with "state" => first | exact HasInv.start | exact HasInv.sp (by assumption) (by assumption) (by omega) | exact HasInv.tb (by assumption) (by assumption) (by omega))
  (k_with "pyIter str" => k_state (fun pre col => HasInv cols pre col) "width")
  k_steps
  all_goals subst_vars
  all_goals first 
    | exact p_retB hret (by assumption) (HasInv.stop (by assumption) (by assumption) (by assumption) (by assumption))
    | exact p_retB hret (by assumption) (HasInv.over (by assumption))
    | exact p_retB hret (by assumption) (HasInv.spT (by assumption) (by assumption) (by assumption) (by omega))
    | exact p_retB hret (by assumption) (HasInv.tbT (by assumption) (by assumption) (by assumption) (by omega))
end Mine
namespace Mine
open PySem.Builtin PySem.Builtin.Str
theorem sp_is : Str.ofString " " = Str.mk #[32] := by decide +kernel
theorem tb_is : Str.ofString "\t" = Str.mk #[9] := by decide +kernel
theorem nl_is : Str.ofString "\n" = Str.mk #[10] := by decide +kernel
theorem em_is : Str.ofString "" = Str.mk #[] := by decide +kernel
theorem str_eq {x y : Str} (h : x.cps.toList = y.cps.toList) : x = y := PySem.Str.ext' (Array.toList_inj.mp h)
theorem len_is (x : Str) : x.length = x.cps.toList.length := by simp [PySem.Str.length]
theorem toL_append (x y : Str) : (x ++ y).cps.toList = x.cps.toList ++ y.cps.toList := by rw [PySem.Str.cps_append, Array.toList_append]
theorem slice_from {x : Str} {i : Int} (h0 : 0 ≤ i) (h1 : i ≤ x.length) : (Txt.slice x (some i) none).cps.toList = x.cps.toList.drop i.toNat := by
  have h := PySem.StrLaws.sliceText_from (x := x) (i := i) ⟨h0, by rw [← len_is]; exact h1⟩
  have e : Txt.slice x (some i) none = PySem.StrLaws.sliceText x (some i) none := rfl
  rw [e, h]
  show List.take _ _ = _
  refine List.take_of_length_le ?_
  rw [List.length_drop]
  rw [len_is] at h1
  omega
theorem slice_to {x : Str} {j : Int} (h0 : 0 ≤ j) (h1 : j ≤ x.length) : (Txt.slice x none (some j)).cps.toList = x.cps.toList.take j.toNat := by
  have h := PySem.StrLaws.sliceText_to (x := x) (j := j) ⟨h0, by rw [← len_is]; exact h1⟩
  have e : Txt.slice x none (some j) = PySem.StrLaws.sliceText x none (some j) := rfl
  rw [e, h]
  show List.take _ _ = _
  rw [List.drop_zero, Int.sub_zero]
theorem mul_sp (n : Int) : (Txt.mul (Str.ofString " ") n).cps.toList = List.replicate n.toNat 32 := by
  rw [sp_is]; exact mul_one_list 32 n
def cat (ws : List Str) : List Nat := ws.flatMap fun x => x.cps.toList
theorem cat_snoc (ws : List Str) (y : Str) : cat (ws ++ [y]) = cat ws ++ y.cps.toList := by simp [cat]
theorem sum_len (ws : List Str) : (ws.map (·.length)).sum = (cat ws).length := by
  induction ws with
  | nil => rfl
  | cons a r ih => simp [cat] at ih ⊢; rw [ih]; rfl
theorem join_em (ws : List Str) : (Txt.join (Str.ofString "") ws).cps.toList = cat ws := by
  show (glued (Str.ofString "") ws).cps.toList = _
  rw [PySem.StrLaws.glued_eq_join, em_is]
  induction ws with
  | nil => rfl
  | cons a r ih =>
    cases r with
    | nil => simp [cat, Str.join]
    | cons b r =>
      show (a ++ Str.mk #[] ++ Str.join (Str.mk #[]) (b :: r)).cps.toList = _
      rw [toL_append, toL_append, ih]
      simp [cat]
theorem item_at {x : Str} {i : Int} (h0 : 0 ≤ i) (h1 : i < x.length) : ∃ n, Txt.item x i = Str.mk #[n] ∧ x.cps.toList[i.toNat]? = some n ∧ x.cps.toList.drop i.toNat = n :: x.cps.toList.drop (i.toNat + 1) := by
  have hl : i.toNat < x.cps.toList.length := by rw [← len_is]; omega
  have hs : i.toNat < x.cps.size := by simpa using hl
  refine ⟨x.cps.toList[i.toNat], ?_, List.getElem?_eq_getElem hl, List.drop_eq_getElem_cons hl⟩
  unfold Txt.item Txt.charAt seqIndex?
  have e : ¬ i < 0 := by omega
  simp only [if_neg e]
  have e2 : (decide (0 ≤ i) && decide (i < (x.length : Int))) = true := by simp [h0, h1]
  rw [if_pos e2]
  simp [hs]
end Mine
namespace Mine
def expand : List Nat → Nat → List Nat
  | [], _ => []
  | c :: r, col => if c = 32 then 32 :: expand r (col + 1) else if c = 9 then List.replicate (4 - col % 4) 32 ++ expand r (col + (4 - col % 4)) else c :: r
structure ExpInv (x : Str) (start : Int) (col : Int) (parts : List Str) (i : Int) : Prop where
  pos : 0 ≤ col
  i0 : 0 ≤ i
  i1 : i ≤ x.length
  size : (cat parts).length ≤ 4 * i.toNat
  len : (parts.length : Int) = i
  eq : expand x.cps.toList start.toNat = cat parts ++ expand (x.cps.toList.drop i.toNat) col.toNat
theorem ExpInv.start {x : Str} {st : Int} (h : 0 ≤ st) : 0 ≤ st ∧ 0 ≤ (0 : Int) ∧ (0 : Int) ≤ x.length ∧ (([] : List Str).length : Int) = 0 ∧ ExpInv x st st [] 0 :=
  ⟨h, by omega, by omega, rfl, h, by omega, by omega, by simp [cat], rfl, by simp [cat]⟩
theorem ExpInv.join {x : Str} {st col i : Int} {parts : List Str} (h : ExpInv x st col parts i) (hx : x.length ≤ 1000) : (parts.map (·.length)).sum + parts.length * (Str.ofString "").length ≤ 16777216 := by
  have h1 := h.size; have h2 := h.i1; have h3 := h.i0
  have e : (Str.ofString "").length = 0 := by decide +kernel
  rw [sum_len, e]
  omega
theorem ExpInv.sp {x : Str} {st col i : Int} {parts : List Str} (h : ExpInv x st col parts i) (hi : i < x.length) (e : (Txt.item x i == Str.ofString " ") = true) :
    0 ≤ col + 1 ∧ 0 ≤ i + 1 ∧ i + 1 ≤ x.length ∧ ((parts ++ [Str.ofString " "]).length : Int) = i + 1 ∧ ExpInv x st (col + 1) (parts ++ [Str.ofString " "]) (i + 1) := by
  obtain ⟨a, b, c, d, l, q⟩ := h
  obtain ⟨n, hn, _, hd⟩ := item_at b hi
  rw [hn] at e
  have := sp_yes e; subst this
  have e1 : (i + 1).toNat = i.toNat + 1 := by omega
  have e2 : (col + 1).toNat = col.toNat + 1 := by omega
  have hl : ((parts ++ [Str.ofString " "]).length : Int) = i + 1 := by rw [List.length_append, List.length_singleton]; omega
  refine ⟨by omega, by omega, by omega, hl, by omega, by omega, by omega, ?_, hl, ?_⟩
  · rw [cat_snoc, List.length_append, e1]
    have : (Str.ofString " ").cps.toList.length = 1 := by decide +kernel
    omega
  · rw [q, hd, expand, if_pos rfl, cat_snoc, e1, e2, List.append_assoc, sp_is]
    rfl
theorem ExpInv.tb {x : Str} {st col i : Int} {parts : List Str} (h : ExpInv x st col parts i) (hi : i < x.length) (e : (Txt.item x i == Str.ofString "\t") = true) :
    0 ≤ col + (4 - col.fmod 4) ∧ 0 ≤ i + 1 ∧ i + 1 ≤ x.length ∧ ((parts ++ [Txt.mul (Str.ofString " ") (4 - col.fmod 4)]).length : Int) = i + 1 ∧ ExpInv x st (col + (4 - col.fmod 4)) (parts ++ [Txt.mul (Str.ofString " ") (4 - col.fmod 4)]) (i + 1) := by
  obtain ⟨a, b, c, d, l, q⟩ := h
  obtain ⟨n, hn, _, hd⟩ := item_at b hi
  rw [hn] at e
  have := tb_yes e; subst this
  have e1 : (i + 1).toNat = i.toNat + 1 := by omega
  have hm : (4 - col.fmod 4).toNat = 4 - col.toNat % 4 := by rw [Int.fmod_eq_emod_of_nonneg _ (by omega)]; omega
  have hl : ((parts ++ [Txt.mul (Str.ofString " ") (4 - col.fmod 4)]).length : Int) = i + 1 := by rw [List.length_append, List.length_singleton]; omega
  rw [tab_step a]
  refine ⟨by omega, by omega, by omega, hl, by omega, by omega, by omega, ?_, hl, ?_⟩
  · rw [cat_snoc, List.length_append, e1, mul_sp, List.length_replicate]
    omega
  · rw [q, hd, expand, if_neg (by decide), if_pos rfl, cat_snoc, e1, mul_sp, hm, Int.toNat_natCast, List.append_assoc]
theorem ExpInv.fit {x : Str} {st col i : Int} {parts : List Str} (h : ExpInv x st col parts i) (hx : x.length ≤ 1000) : (Txt.join (Str.ofString "") parts).length + (Txt.slice x (some i) none).length ≤ sizeLine := by
  have h1 := h.size; have h2 := h.i1; have h3 := h.i0
  have h4 := Txt.slice_le x (some i) none
  rw [len_is (Txt.join _ _), join_em, sizeLine_eq]
  omega
theorem ExpInv.stop {x : Str} {st col i : Int} {parts : List Str} (h : ExpInv x st col parts i) (hi : i < x.length) (e1 : (Txt.item x i == Str.ofString " ") = false) (e2 : (Txt.item x i == Str.ofString "\t") = false) :
    Txt.join (Str.ofString "") parts ++ Txt.slice x (some i) none = Str.mk (expand x.cps.toList st.toNat).toArray := by
  obtain ⟨a, b, c, d, l, q⟩ := h
  obtain ⟨n, hn, _, hd⟩ := item_at b hi
  rw [hn] at e1 e2
  refine str_eq ?_
  rw [toL_append, join_em, slice_from b c, q, hd, expand, if_neg (sp_no e1), if_neg (tb_no e2)]
theorem ExpInv.over {x : Str} {st col i : Int} {parts : List Str} (h : ExpInv x st col parts i) (hi : ¬ i < x.length) :
    Txt.join (Str.ofString "") parts ++ Txt.slice x (some i) none = Str.mk (expand x.cps.toList st.toNat).toArray := by
  obtain ⟨a, b, c, d, l, q⟩ := h
  refine str_eq ?_
  rw [len_is] at hi
  have hd : x.cps.toList.drop i.toNat = [] := List.drop_eq_nil_of_le (by omega)
  rw [toL_append, join_em, slice_from b c, q, hd, expand]
theorem meas_up {n i : Int} (h : i < n) : (n - (i + 1)).toNat < (n - i).toNat := by omega
local macro_rules | `(tactic| walk_at "mine enter") => `(tactic| (refine' code_pure ?k1 ?k2 ?k3 ?k5 ?kA ?kF ?kK ?k6 ?k7 ?k8 ?k9 ?kB ?_ ?c2 ?c3 ?c4 ?c5; (case kA => exact rfl); (case kF => exact rfl); (case kK => assumption); (case k1 => k_asm); (case k2 => k_asm); (case k3 => k_asm); (case k5 => k_asm); (case k6 => k_is); (case k7 => k_is); (case k8 => ktr_room); (case k9 => first | exact BindsTo.of_eq rfl | exact binds_K (by k_in) rfl (by k_is) rfl rfl rfl | fail "enter: no rule for these arguments"); (case c5 => decide); (case kB => exact locs rfl); (case c2 => exact rfl); (case c3 => exact rfl); (case c4 => exact rfl); k_whole; intro g' L' h' hg' FG' F' N' B' X' T'; (try dsimp only); (try k_fold)))
local macro_rules | `(tactic| walk_at "mine same") => `(tactic| (intro z h2 h3; (simp only [List.forall_mem_cons, List.not_mem_nil, false_implies, implies_true, and_true, ne_eq] at h2); (try simp only [List.contains_cons, List.contains_nil, Bool.or_false, Bool.or_eq_false_iff, beq_eq_false_iff_ne, ne_eq] at h3); (first | simp only [kstB, h2, h3, if_false, List.contains_cons, List.contains_nil, Bool.or_false, beq_iff_eq, Bool.or_eq_true, or_self, false_or, Bool.false_eq_true, decide_false, Bool.or_self] | simp only [kstB, h2, if_false, List.contains_cons, List.contains_nil, Bool.or_false, beq_iff_eq, Bool.or_eq_true, or_self, false_or, Bool.false_eq_true, decide_false, Bool.or_self])))
local macro_rules | `(tactic| walk_at "KswEnd") => `(tactic| k_extra "kend")
local macro_rules | `(tactic| walk_at "call builtin:str.join") => `(tactic| (k_here; (with_reducible show wpAny _ _ (call (Value.builtin "str.join") [Value.str _ _, Value.ref _]) _ _ _); k_dflt (refine' join_list ?l ?i ?o ?_; (case l => exact News.isList (by k_asm) (by k_mem)); (case i => assumption); (case o => k_extra "join")); intro _ _))
local macro_rules | `(tactic| walk_at "binaryOp Add str str") => `(tactic| (k_here; (with_reducible show wpAny _ _ (binaryOp Operator.Add (Value.str _ _) (Value.str _ _)) _ _ _); (refine SBL.add (hsz := ?hsz) ?_); (case hsz => k_extra "fit"); intro _ _ _))
local macro_rules | `(tactic| walk_at "mine expand") => `(tactic| (
  (k_with_none);
  (k_with "kend" => (
    (with_reducible rename News _ _ _ _ => nE'; (try simp only [List.push_toArray] at nE'); refine' ksw_end ⟨_, _, _, _, _, _, _⟩ ?kF nE' ?kI ?kf ?kk ?ks ?kp ?km);
    (case kF => assumption);
    (case kI => (intro p hp; exact hp));
    (case kf => dsimp only; exact PyProof.Rows.StrsAre.append' (by assumption) (.cons _ _ .nil));
    (case kk => kst_all);
    (case ks => walk_at "mine same");
    (case kp => dsimp only; first | exact ExpInv.sp (by assumption) (by assumption) (by assumption) | exact ExpInv.tb (by assumption) (by assumption) (by assumption));
    (case km => dsimp only; exact meas_up (by assumption))));
  (k_with "join" => exact ExpInv.join (by assumption) (by assumption));
  (k_with "fit" => exact ExpInv.fit (by assumption) (by assumption))))
local macro_rules | `(tactic| walk_at "exec While Compare cons nil") => `(tactic| k_extra "my while")
set_option maxHeartbeats 4000000 in
theorem expand_spec {prog : Program} {w : World} {p : Program} {loose : List Str} {mean : ExcName → Option Value} {mg mb : Str → Option Value}
    (x : Str) (tx : Tok) (st : Int) (tc : Tok) (hx : x.length ≤ 1000) (h0 : 0 ≤ st) : PCall prog w p loose mean mg mb 86 1 [.str x tx, .int st tc] (fun t => .str ⟨(expand x.cps.toList st.toNat).toArray⟩ t) := by
  intro dp un gd cn cs a ccd cl outer A₀ base h₀ L m s Q E B F X T hk hd hu hret
  refine wpAny_call ?_
  (k_with_none)
  w_top off
  k_dflt (walk_at "mine enter")
  walk_at "mine expand"
  (k_with "my while" => (
    (with_reducible rename Fr _ _ _ _ => lF');
    (with_reducible rename News _ _ _ _ => lN');
    (refine' ksw_while (fun c : Int × Nat × List Value × List Str × Nat × Int × Nat => [(_, W.listOf c.2.2.1.toArray c.2.2.2.2.1)]) (fun c => [(Str.ofString "column", Value.int c.1 c.2.1), (Str.ofString "index", Value.int c.2.2.2.2.2.1 c.2.2.2.2.2.2)]) (fun c => StrsAre c.2.2.1 c.2.2.2.1) [Str.ofString "c", Str.ofString "size"] (fun c => 0 ≤ c.1 ∧ 0 ≤ c.2.2.2.2.2.1 ∧ c.2.2.2.2.2.1 ≤ x.length ∧ (c.2.2.2.1.length : Int) = c.2.2.2.2.2.1 ∧ ExpInv x st c.1 c.2.2.2.1 c.2.2.2.2.2.1) (fun c => (x.length - c.2.2.2.2.2.1).toNat) (st, _, [], [], 0, 0, _) lF' ?kn ?kf ?kk ?kp ?_ ?hE);
    (case hE => first | passes_own | with_unfolding_all passes_own);
    (case kn => exact lN');
    (case kf => exact StrsAre.nil);
    (case kk => kst_all);
    (case kp => exact ExpInv.start (by assumption));
    (clear lF' lN');
    (rintro ⟨col, tcol, vs, ws, nn, i, ti⟩ kU kH kTk kFacts ⟨p1, p2, p3, p4, kInv⟩ kFr kNews);
    (dsimp only at kFacts p1 p2 p3 p4 kInv kFr kNews);
    (dsimp only);
    (have kLen : vs.length = ws.length := StrsAre.length kFacts);
    (try k_fold)))
  k_steps
  all_goals subst_vars
  · exact p_retS hret (by assumption) (ExpInv.stop (by assumption) (by assumption) (by assumption) (by assumption))
  · exact p_retS hret (by assumption) (ExpInv.over (by assumption) (by assumption))
set_option maxHeartbeats 4000000 in
theorem expand_spec0 {prog : Program} {w : World} {p : Program} {loose : List Str} {mean : ExcName → Option Value} {mg mb : Str → Option Value}
    (x : Str) (tx : Tok) (hx : x.length ≤ 1000) : PCall prog w p loose mean mg mb 86 1 [.str x tx] (fun t => .str ⟨(expand x.cps.toList 0).toArray⟩ t) := by
  intro dp un gd cn cs a ccd cl outer A₀ base h₀ L m s Q E B F X T hk hd hu hret
  refine wpAny_call ?_
  (k_with_none)
  w_top off
  k_dflt (walk_at "mine enter")
  walk_at "mine expand"
  (k_with "my while" => (
    (with_reducible rename Fr _ _ _ _ => lF');
    (with_reducible rename News _ _ _ _ => lN');
    (refine' ksw_while (fun c : Int × Nat × List Value × List Str × Nat × Int × Nat => [(_, W.listOf c.2.2.1.toArray c.2.2.2.2.1)]) (fun c => [(Str.ofString "column", Value.int c.1 c.2.1), (Str.ofString "index", Value.int c.2.2.2.2.2.1 c.2.2.2.2.2.2)]) (fun c => StrsAre c.2.2.1 c.2.2.2.1) [Str.ofString "c", Str.ofString "size"] (fun c => 0 ≤ c.1 ∧ 0 ≤ c.2.2.2.2.2.1 ∧ c.2.2.2.2.2.1 ≤ x.length ∧ (c.2.2.2.1.length : Int) = c.2.2.2.2.2.1 ∧ ExpInv x 0 c.1 c.2.2.2.1 c.2.2.2.2.2.1) (fun c => (x.length - c.2.2.2.2.2.1).toNat) (0, _, [], [], 0, 0, _) lF' ?kn ?kf ?kk ?kp ?_ ?hE);
    (case hE => first | passes_own | with_unfolding_all passes_own);
    (case kn => exact lN');
    (case kf => exact StrsAre.nil);
    (case kk => kst_all);
    (case kp => exact ExpInv.start (st := 0) (Int.le_refl 0));
    (clear lF' lN');
    (rintro ⟨col, tcol, vs, ws, nn, i, ti⟩ kU kH kTk kFacts ⟨p1, p2, p3, p4, kInv⟩ kFr kNews);
    (dsimp only at kFacts p1 p2 p3 p4 kInv kFr kNews);
    (dsimp only);
    (have kLen : vs.length = ws.length := StrsAre.length kFacts);
    (try k_fold)))
  k_steps
  all_goals subst_vars
  · exact p_retS hret (by assumption) (ExpInv.stop (by assumption) (by assumption) (by assumption) (by assumption))
  · exact p_retS hret (by assumption) (ExpInv.over (by assumption) (by assumption))
theorem pcall_use {prog : Program} {w : World} {p : Program} {loose : List Str} {mean : ExcName → Option Value} {mg mb : Str → Option Value} {f : Addr} {d : Nat} {vs : List Value} {V : Tok → Value}
    {dp un : Nat} {gd : Option (List Code)} {cn : Str} {cs : Scope} {a : Addr} {ccd : Value} {cl : List (Str × Addr)} {outer : List Env} {A₀ : Around} {base h₀ : Heap} {L : Addr} {m : Str → Option Value} {news : List (Addr × Obj)} {s : Shared} {Q E : Value → Shared → Prop}
    (C : PCall prog w p loose mean mg mb f d vs V) (B : Below A₀ base outer h₀) (F : Fr h₀ L s.heap m) (X : (hd.heap_39 w.params).In h₀) (N : News h₀ L s.heap news) (T : Top p loose mean mg mb h₀) (hk : cs.kind = .function) (hd : dp + d < recursionLimit) (hu : un + 8 * d < cLine)
    (ret : ∀ (t : Tok) (h' : Heap) (tk' : Nat), Fr h₀ L h' m → News h₀ L h' news → Q (V t) { s with heap := h', toks := tk' }) :
    wpAny (model prog w) (ktrTop dp un gd cn cs L a ccd cl outer) (call (.ref f) vs) Q E s := by
  refine C dp un gd cn cs a ccd cl outer A₀ base h₀ L m s Q E B F X T hk hd hu fun t h' tk' st => ?_
  obtain ⟨oL, es, ep, hL, hLd, hLk, hLf⟩ := F.ns
  exact ret t h' tk' ⟨⟨oL, es, ep, st _ _ hL, hLd, hLk, hLf⟩, fun b o e => st b o (F.keep b o e), F.above⟩ (fun p hp => ⟨st _ _ (N p hp).1, (N p hp).2.1, (N p hp).2.2⟩)
end Mine
namespace Mine
def stripL (cols : Int) : List Nat → Nat → List Nat × Nat
  | [], w => ([], w)
  | c :: r, w => if (w : Int) < cols then (if c = 32 then stripL cols r (w + 1) else if c = 9 then stripL cols r (w + (4 - w % 4)) else (c :: r, w)) else (c :: r, w)
def stripC (cols : Int) (l : List Nat) : List Nat :=
  if ((stripL cols l 0).2 : Int) < cols then [] else List.replicate (((stripL cols l 0).2 : Int) - cols).toNat 32 ++ expand (stripL cols l 0).1 (stripL cols l 0).2
structure StrInv (x : Str) (cols w i : Int) : Prop where
  eq : stripL cols x.cps.toList 0 = stripL cols (x.cps.toList.drop i.toNat) w.toNat
theorem StrInv.start {x : Str} {cols : Int} : 0 ≤ (0:Int) ∧ (0:Int) ≤ 4 * 0 ∧ 0 ≤ (0 : Int) ∧ (0 : Int) ≤ x.length ∧ StrInv x cols 0 0 := ⟨by omega, by omega, by omega, by omega, ⟨rfl⟩⟩
theorem StrInv.sp {x : Str} {cols w i : Int} (h : StrInv x cols w i) (h0 : 0 ≤ w) (h1 : w ≤ 4 * i) (h2 : 0 ≤ i) (hi : i < x.length) (hw : w < cols) (e : (Txt.item x i == Str.ofString " ") = true) :
    0 ≤ w + 1 ∧ w + 1 ≤ 4 * (i + 1) ∧ 0 ≤ i + 1 ∧ i + 1 ≤ x.length ∧ StrInv x cols (w + 1) (i + 1) := by
  obtain ⟨q⟩ := h
  obtain ⟨n, hn, _, hd⟩ := item_at h2 hi
  rw [hn] at e
  have := sp_yes e; subst this
  have e1 : (i + 1).toNat = i.toNat + 1 := by omega
  have e2 : (w + 1).toNat = w.toNat + 1 := by omega
  have e3 : ((w.toNat : Nat) : Int) < cols := by omega
  exact ⟨by omega, by omega, by omega, by omega, ⟨by rw [q, hd, stripL, if_pos e3, if_pos rfl, e1, e2]⟩⟩
theorem StrInv.tb {x : Str} {cols w i : Int} (h : StrInv x cols w i) (h0 : 0 ≤ w) (h1 : w ≤ 4 * i) (h2 : 0 ≤ i) (hi : i < x.length) (hw : w < cols) (e : (Txt.item x i == Str.ofString "\t") = true) :
    0 ≤ w + (4 - w.fmod 4) ∧ w + (4 - w.fmod 4) ≤ 4 * (i + 1) ∧ 0 ≤ i + 1 ∧ i + 1 ≤ x.length ∧ StrInv x cols (w + (4 - w.fmod 4)) (i + 1) := by
  obtain ⟨q⟩ := h
  obtain ⟨n, hn, _, hd⟩ := item_at h2 hi
  rw [hn] at e
  have := tb_yes e; subst this
  have e1 : (i + 1).toNat = i.toNat + 1 := by omega
  have e3 : ((w.toNat : Nat) : Int) < cols := by omega
  rw [tab_step h0]
  exact ⟨by omega, by omega, by omega, by omega, ⟨by rw [q, hd, stripL, if_pos e3, if_neg (by decide), if_pos rfl, e1, Int.toNat_natCast]⟩⟩
theorem expand_len : ∀ (l : List Nat) (w : Nat), (expand l w).length ≤ 4 * l.length
  | [], _ => Nat.zero_le _
  | c :: r, w => by
    unfold expand
    split
    · have := expand_len r (w + 1); simp only [List.length_cons]; omega
    · split
      · have := expand_len r (w + (4 - w % 4)); simp only [List.length_cons, List.length_append, List.length_replicate]; omega
      · simp only [List.length_cons]; omega
theorem expand_free : ∀ (l : List Nat) (w : Nat), 9 ∉ l → expand l w = l
  | [], _, _ => rfl
  | c :: r, w, h => by
    have h1 : c ≠ 9 := fun e => h (e ▸ List.mem_cons_self ..)
    have h2 : 9 ∉ r := fun m => h (List.mem_cons_of_mem _ m)
    unfold expand
    rw [if_neg h1]
    split
    · rename_i e; rw [expand_free r (w + 1) h2, e]
    · rfl
theorem slice_drop {x : Str} {i : Int} (h2 : 0 ≤ i) (h3 : i ≤ x.length) : (Txt.slice x (some i) none).cps.toList = x.cps.toList.drop i.toNat := slice_from h2 h3
theorem no_tab {y : Str} (h : (Builtin.Str.occurrences y (Str.ofString "\t") 0 y.length 1).isEmpty = true) : 9 ∉ y.cps.toList := by
  rw [tb_is] at h
  have := PySem.StrLaws.found_one y 9
  rw [h] at this
  simpa using this.symm
theorem StrInv.outB {x : Str} {cols w i : Int} (h : StrInv x cols w i) (h0 : 0 ≤ w) (h2 : 0 ≤ i) (hi : i < x.length) (e1 : (Txt.item x i == Str.ofString " ") = false) (e2 : (Txt.item x i == Str.ofString "\t") = false) :
    stripL cols x.cps.toList 0 = (x.cps.toList.drop i.toNat, w.toNat) := by
  obtain ⟨q⟩ := h
  obtain ⟨n, hn, _, hd⟩ := item_at h2 hi
  rw [hn] at e1 e2
  rw [q, hd]
  unfold stripL
  split
  · rw [if_neg (sp_no e1), if_neg (tb_no e2)]
  · rfl
theorem StrInv.outL {x : Str} {cols w i : Int} (h : StrInv x cols w i) (hi : ¬ i < x.length) :
    stripL cols x.cps.toList 0 = (x.cps.toList.drop i.toNat, w.toNat) := by
  obtain ⟨q⟩ := h
  rw [len_is] at hi
  rw [q, List.drop_eq_nil_of_le (by omega), stripL]
theorem StrInv.outW {x : Str} {cols w i : Int} (h : StrInv x cols w i) (h0 : 0 ≤ w) (hw : ¬ w < cols) :
    stripL cols x.cps.toList 0 = (x.cps.toList.drop i.toNat, w.toNat) := by
  obtain ⟨q⟩ := h
  have e : ¬ ((w.toNat : Nat) : Int) < cols := by omega
  rw [q]
  cases x.cps.toList.drop i.toNat with
  | nil => rfl
  | cons c r => rw [stripL, if_neg e]
theorem strip_none {x : Str} {cols w i : Int} (q : stripL cols x.cps.toList 0 = (x.cps.toList.drop i.toNat, w.toNat)) (h0 : 0 ≤ w) (hw : w < cols) : Str.ofString "" = Str.mk (stripC cols x.cps.toList).toArray := by
  unfold stripC
  rw [q, if_pos (by show ((w.toNat : Nat) : Int) < cols; omega), em_is]
theorem strip_some {x : Str} {cols w i : Int} (q : stripL cols x.cps.toList 0 = (x.cps.toList.drop i.toNat, w.toNat)) (h0 : 0 ≤ w) (hw : ¬ w < cols) (h2 : 0 ≤ i) (h3 : i ≤ x.length) {y : Str}
    (hy : y.cps.toList = expand (x.cps.toList.drop i.toNat) w.toNat) : Txt.mul (Str.ofString " ") (w - cols) ++ y = Str.mk (stripC cols x.cps.toList).toArray := by
  refine str_eq ?_
  unfold stripC
  rw [q, if_neg (by show ¬ ((w.toNat : Nat) : Int) < cols; omega), toL_append, mul_sp, hy]
  show _ = List.replicate (((w.toNat : Nat) : Int) - cols).toNat 32 ++ _
  rw [Int.toNat_of_nonneg h0]
theorem strip_free {x : Str} {w i : Int} (h2 : 0 ≤ i) (h3 : i ≤ x.length) (h : (Builtin.Str.occurrences (Txt.slice x (some i) none) (Str.ofString "\t") 0 (Txt.slice x (some i) none).length 1).isEmpty = true) :
    (Txt.slice x (some i) none).cps.toList = expand (x.cps.toList.drop i.toNat) w.toNat := by
  have := no_tab h
  rw [slice_drop h2 h3] at this ⊢
  rw [expand_free _ _ this]
theorem strip_end' {x : Str} {w i : Int} (h2 : 0 ≤ i) (h3 : i ≤ x.length) (hi : ¬ i < x.length) :
    (Txt.slice x (some i) none).cps.toList = expand (x.cps.toList.drop i.toNat) w.toNat := by
  rw [slice_drop h2 h3]
  rw [len_is] at hi
  rw [List.drop_eq_nil_of_le (by omega), expand]
theorem strip_sign {x : Str} {w i : Int} (h2 : 0 ≤ i) (hi : i < x.length) (e1 : (Txt.item x i == Str.ofString " ") = false) (e2 : (Txt.item x i == Str.ofString "\t") = false) :
    (Txt.slice x (some i) none).cps.toList = expand (x.cps.toList.drop i.toNat) w.toNat := by
  rw [slice_drop h2 (by omega)]
  obtain ⟨n, hn, _, hd⟩ := item_at h2 hi
  rw [hn] at e1 e2
  rw [hd, expand, if_neg (sp_no e1), if_neg (tb_no e2)]
theorem strip_call {x : Str} {w i : Int} (h2 : 0 ≤ i) (h3 : i ≤ x.length) : (Str.mk (expand (Txt.slice x (some i) none).cps.toList w.toNat).toArray).cps.toList = expand (x.cps.toList.drop i.toNat) w.toNat := by
  rw [slice_drop h2 h3]
theorem strip_fit {x : Str} {cols w i : Int} (hx : x.length ≤ 1000) (hc : 0 ≤ cols) (h1 : w ≤ 4 * i) (h3 : i ≤ x.length) : (Txt.mul (Str.ofString " ") (w - cols)).length + (Txt.slice x (some i) none).length ≤ sizeLine := by
  have h4 := Txt.slice_le x (some i) none
  rw [len_is (Txt.mul _ _), mul_sp, List.length_replicate, sizeLine_eq]
  omega
theorem strip_fit2 {x : Str} {cols w i : Int} (hx : x.length ≤ 1000) (hc : 0 ≤ cols) (h1 : w ≤ 4 * i) (h3 : i ≤ x.length) : (Txt.mul (Str.ofString " ") (w - cols)).length + (Str.mk (expand (Txt.slice x (some i) none).cps.toList w.toNat).toArray).length ≤ sizeLine := by
  have h4 := Txt.slice_le x (some i) none
  rw [len_is (Txt.slice _ _ _)] at h4
  have h5 := expand_len (Txt.slice x (some i) none).cps.toList w.toNat
  rw [len_is (Txt.mul _ _), mul_sp, List.length_replicate, len_is (Str.mk _), sizeLine_eq]
  show _ + (expand (Txt.slice x (some i) none).cps.toList w.toNat).length ≤ _
  omega
theorem bne_false {a b : Str} (h : (a != b) = true) : (a == b) = false := by simpa [bne] using h
theorem slice_short {x : Str} {i : Int} (hx : x.length ≤ 1000) : (Txt.slice x (some i) none).length ≤ 1000 := Nat.le_trans (Txt.slice_le x (some i) none) hx
local macro_rules | `(tactic| walk_at "mine enter") => `(tactic| (refine' code_pure ?k1 ?k2 ?k3 ?k5 ?kA ?kF ?kK ?k6 ?k7 ?k8 ?k9 ?kB ?_ ?c2 ?c3 ?c4 ?c5; (case kA => exact rfl); (case kF => exact rfl); (case kK => assumption); (case k1 => k_asm); (case k2 => k_asm); (case k3 => k_asm); (case k5 => k_asm); (case k6 => k_is); (case k7 => k_is); (case k8 => ktr_room); (case k9 => first | exact BindsTo.of_eq rfl | exact binds_K (by k_in) rfl (by k_is) rfl rfl rfl | fail "enter: no rule for these arguments"); (case c5 => decide); (case kB => exact locs rfl); (case c2 => exact rfl); (case c3 => exact rfl); (case c4 => exact rfl); k_whole; intro g' L' h' hg' FG' F' N' B' X' T'; (try dsimp only); (try k_fold)))
local macro_rules | `(tactic| walk_at "mine same") => `(tactic| (intro z h2 h3; (simp only [List.forall_mem_cons, List.not_mem_nil, false_implies, implies_true, and_true, ne_eq] at h2); (try simp only [List.contains_cons, List.contains_nil, Bool.or_false, Bool.or_eq_false_iff, beq_eq_false_iff_ne, ne_eq] at h3); (first | simp only [kstB, h2, h3, if_false, List.contains_cons, List.contains_nil, Bool.or_false, beq_iff_eq, Bool.or_eq_true, or_self, false_or, Bool.false_eq_true, decide_false, Bool.or_self] | simp only [kstB, h2, if_false, List.contains_cons, List.contains_nil, Bool.or_false, beq_iff_eq, Bool.or_eq_true, or_self, false_or, Bool.false_eq_true, decide_false, Bool.or_self])))
local macro_rules | `(tactic| walk_at "KswEnd") => `(tactic| k_extra "kend")
local macro_rules | `(tactic| walk_at "call builtin:str.join") => `(tactic| (k_here; (with_reducible show wpAny _ _ (call (Value.builtin "str.join") [Value.str _ _, Value.ref _]) _ _ _); k_dflt (refine' join_list ?l ?i ?o ?_; (case l => exact News.isList (by k_asm) (by k_mem)); (case i => assumption); (case o => k_extra "join")); intro _ _))
local macro_rules | `(tactic| walk_at "binaryOp Add str str") => `(tactic| (k_here; (with_reducible show wpAny _ _ (binaryOp Operator.Add (Value.str _ _) (Value.str _ _)) _ _ _); (refine SBL.add (hsz := ?hsz) ?_); (case hsz => k_extra "fit"); intro _ _ _))
local macro_rules | `(tactic| walk_at "exec While BoolOp cons nil") => `(tactic| k_extra "my while")
local macro_rules | `(tactic| walk_at "exec While Compare cons nil") => `(tactic| k_extra "my while")
local macro_rules | `(tactic| walk_at "mine call") => `(tactic| ((case k1 => k_asm); (case k2 => k_asm); (case k3 => k_asm); (case k4 => k_asm); (case k5 => k_asm); (case kK => first | exact rfl | assumption); (case kd => ktr_room); (case ku => ktr_units); intro t9 h9 tk9 F9 N9; (try dsimp only); (try k_fold)))
local macro_rules | `(tactic| walk_at "call ref") => `(tactic| (k_here; (with_reducible show wpAny _ _ (call (Value.ref 86) _) _ _ _); k_dflt (refine' pcall_use (expand_spec _ _ _ _ ?hx ?h0) ?k1 ?k2 ?k3 ?k4 ?k5 ?kK ?kd ?ku ?_; (case hx => exact slice_short (by assumption)); (case h0 => assumption); walk_at "mine call")))
set_option maxHeartbeats 4000000 in
theorem strip_spec {prog : Program} {w : World} {p : Program} {loose : List Str} {mean : ExcName → Option Value} {mg mb : Str → Option Value}
    (x : Str) (tx : Tok) (cols : Int) (tc : Tok) (hx : x.length ≤ 1000) (h0 : 0 ≤ cols) : PCall prog w p loose mean mg mb 78 2 [.str x tx, .int cols tc] (fun t => .str ⟨(stripC cols x.cps.toList).toArray⟩ t) := by
  intro dp un gd cn cs a ccd cl outer A₀ base h₀ L m s Q E B F X T hk hd hu hret
  refine wpAny_call ?_
  (k_with_none)
  w_top off
  k_dflt (walk_at "mine enter")
  (k_with_none)
  (k_with "kend" => (
    (with_reducible rename News _ _ _ _ => nE'; refine' ksw_end ⟨_, _, _, _⟩ ?kF nE' ?kI ?kf ?kk ?ks ?kp ?km);
    (case kF => assumption);
    (case kI => (intro p hp; exact hp));
    (case kf => trivial);
    (case kk => kst_all);
    (case ks => walk_at "mine same");
    (case kp => dsimp only; first | exact StrInv.sp (by assumption) (by assumption) (by assumption) (by assumption) (by assumption) (by assumption) (by assumption) | exact StrInv.tb (by assumption) (by assumption) (by assumption) (by assumption) (by assumption) (by assumption) (by assumption));
    (case km => dsimp only; exact meas_up (by assumption))))
  (k_with "fit" => first | exact strip_fit (by assumption) (by assumption) (by assumption) (by assumption) | exact strip_fit2 (by assumption) (by assumption) (by assumption) (by assumption))
  (k_with "my while" => (
    (with_reducible rename Fr _ _ _ _ => lF');
    (with_reducible rename News _ _ _ _ => lN');
    (refine' ksw_while (fun c : Int × Nat × Int × Nat => []) (fun c => [(Str.ofString "width", Value.int c.1 c.2.1), (Str.ofString "index", Value.int c.2.2.1 c.2.2.2)]) (fun c => True) [Str.ofString "char"] (fun c => 0 ≤ c.1 ∧ c.1 ≤ 4 * c.2.2.1 ∧ 0 ≤ c.2.2.1 ∧ c.2.2.1 ≤ x.length ∧ StrInv x cols c.1 c.2.2.1) (fun c => (x.length - c.2.2.1).toNat) (0, _, 0, _) lF' ?kn ?kf ?kk ?kp ?_ ?hE);
    (case hE => first | passes_own | with_unfolding_all passes_own);
    (case kn => exact lN');
    (case kf => trivial);
    (case kk => kst_all);
    (case kp => exact StrInv.start);
    (clear lF' lN');
    (rintro ⟨wd, twd, i, ti⟩ kU kH kTk kFacts ⟨p1, p2, p3, p4, kInv⟩ kFr kNews);
    (dsimp only at p1 p2 p3 p4 kInv kFr kNews);
    (dsimp only);
    (try k_fold)))
  k_steps
  all_goals (first
    | (refine p_retS (by subst_vars; exact hret) (by subst_vars; assumption) (strip_none (w := wd) (i := i) ?_ (by assumption) (by assumption)); first | exact StrInv.outB kInv (by assumption) (by assumption) (by assumption) (by assumption) (by assumption) | exact StrInv.outL kInv (by assumption) | exact StrInv.outW kInv (by assumption) (by assumption))
    | (refine p_retS (by subst_vars; exact hret) (by subst_vars; assumption) (strip_some (w := wd) (i := i) (cols := cols) ?q (by assumption) (by assumption) (by assumption) (by assumption) ?y);
       (case q => first | exact StrInv.outB kInv (by assumption) (by assumption) (by assumption) (by assumption) (by assumption) | exact StrInv.outL kInv (by assumption) | exact StrInv.outW kInv (by assumption) (by assumption));
       (case y => first | exact strip_call (by assumption) (by assumption) | exact strip_free (by assumption) (by assumption) (by assumption) | exact strip_end' (by assumption) (by assumption) (by omega) | exact strip_sign (by assumption) (by assumption) (by assumption) (bne_false (by assumption)) | exact strip_sign (by assumption) (by assumption) (by assumption) (by assumption)))
    | skip)
end Mine
namespace Mine
def upto10 : List Nat → List Nat
  | [] => []
  | c :: r => if c = 10 then [10] else c :: upto10 r
def endS (p : Nat → Bool) : List Nat → List Nat
  | [] => []
  | c :: r => if (c :: r).any (fun a => !p a) = true then c :: endS p r else upto10 (c :: r)
theorem endS_all (p : Nat → Bool) : ∀ l : List Nat, (∀ c ∈ l, p c = true) → endS p l = upto10 l
  | [], _ => rfl
  | c :: r, h => by
    unfold endS
    rw [if_neg]
    intro q
    obtain ⟨a, ha, hb⟩ := List.any_eq_true.mp q
    rw [h a ha] at hb
    cases hb
theorem endS_at (p : Nat → Bool) : ∀ (e : Nat) (l : List Nat), e ≤ l.length → (∀ c ∈ l.drop e, p c = true) → (∀ c, 0 < e → l[e - 1]? = some c → p c = false) → endS p l = l.take e ++ upto10 (l.drop e)
  | 0, l, _, h, _ => by rw [List.take_zero, List.drop_zero, List.nil_append]; exact endS_all p l h
  | e + 1, [], hl, _, _ => by simp at hl
  | e + 1, c :: r, hl, h, hn => by
    have hl' : e ≤ r.length := by simpa using hl
    have hany : (c :: r).any (fun a => !p a) = true := by
      have hlt : e < (c :: r).length := by simp; omega
      have hx := hn (c :: r)[e] (by omega) (by simp)
      exact List.any_eq_true.mpr ⟨(c :: r)[e], List.getElem_mem hlt, by rw [hx]; rfl⟩
    unfold endS
    rw [if_pos hany, endS_at p e r hl' (fun a ha => h a ha) (fun a h0 ha => hn a (by omega) ?_)]
    · rfl
    · obtain ⟨k, rfl⟩ : ∃ k, e = k + 1 := ⟨e - 1, by omega⟩
      simpa using ha
theorem upto10_none : ∀ l : List Nat, 10 ∉ l → upto10 l = l
  | [], _ => rfl
  | c :: r, h => by
    have h1 : c ≠ 10 := fun e => h (e ▸ List.mem_cons_self ..)
    have h2 : 10 ∉ r := fun m => h (List.mem_cons_of_mem _ m)
    unfold upto10
    rw [if_neg h1, upto10_none r h2]
theorem upto10_at : ∀ (k : Nat) (l : List Nat), l[k]? = some 10 → (∀ i, i < k → l[i]? ≠ some 10) → upto10 l = l.take (k + 1)
  | _, [], h, _ => by simp at h
  | 0, c :: r, h, _ => by
    have : c = 10 := by simpa using h
    subst this
    rfl
  | k + 1, c :: r, h, hn => by
    have h1 : c ≠ 10 := fun e => hn 0 (by omega) (by rw [e]; rfl)
    unfold upto10
    rw [if_neg h1, upto10_at k r (by simpa using h) (fun i hi => by have := hn (i + 1) (by omega); simpa using this)]
    rfl
theorem endS_congr {p q : Nat → Bool} : ∀ l : List Nat, (∀ c ∈ l, p c = q c) → endS p l = endS q l
  | [], _ => rfl
  | c :: r, h => by
    unfold endS
    have e : (c :: r).any (fun a => !p a) = (c :: r).any (fun a => !q a) := by
      rw [Bool.eq_iff_iff, List.any_eq_true, List.any_eq_true]
      exact ⟨fun ⟨a, ha, hb⟩ => ⟨a, ha, by rw [← h a ha]; exact hb⟩, fun ⟨a, ha, hb⟩ => ⟨a, ha, by rw [h a ha]; exact hb⟩⟩
    rw [e, endS_congr r fun a ha => h a (List.mem_cons_of_mem _ ha)]
structure EndInv (x : Str) (e : Int) : Prop where
  all : ∀ c ∈ x.cps.toList.drop e.toNat, Unicode.isSpace c = true
theorem EndInv.start {x : Str} : 0 ≤ (x.length : Int) ∧ (x.length : Int) ≤ x.length ∧ EndInv x x.length :=
  ⟨by omega, by omega, ⟨fun c hc => by rw [List.drop_eq_nil_of_le (by rw [len_is]; omega)] at hc; cases hc⟩⟩
theorem isspace_one {n : Nat} : Txt.isspace (Str.mk #[n]) = Unicode.isSpace n := by simp [Txt.isspace, PySem.Str.length]
theorem EndInv.step {x : Str} {e : Int} (h : EndInv x e) (h0 : 0 ≤ e) (h1 : e ≤ x.length) (he : e ≠ 0) (hs : Txt.isspace (Txt.item x (e - 1)) = true) : 0 ≤ e - 1 ∧ e - 1 ≤ x.length ∧ EndInv x (e - 1) := by
  obtain ⟨n, hn, _, hd⟩ := item_at (x := x) (i := e - 1) (by omega) (by omega)
  rw [hn, isspace_one] at hs
  refine ⟨by omega, by omega, ⟨fun c hc => ?_⟩⟩
  rw [hd] at hc
  rcases List.mem_cons.mp hc with rfl | hc
  · exact hs
  · have e1 : (e - 1).toNat + 1 = e.toNat := by omega
    rw [e1] at hc
    exact h.all c hc
theorem EndInv.outZ {x : Str} {e : Int} (h : EndInv x e) (he : e = 0) : endS Unicode.isSpace x.cps.toList = x.cps.toList.take e.toNat ++ upto10 (x.cps.toList.drop e.toNat) := by
  subst he
  exact endS_at _ 0 _ (Nat.zero_le _) h.all (fun _ h => absurd h (Nat.lt_irrefl _))
theorem EndInv.outN {x : Str} {e : Int} (h : EndInv x e) (h0 : 0 ≤ e) (h1 : e ≤ x.length) (he : e ≠ 0) (hs : Txt.isspace (Txt.item x (e - 1)) = false) : endS Unicode.isSpace x.cps.toList = x.cps.toList.take e.toNat ++ upto10 (x.cps.toList.drop e.toNat) := by
  refine endS_at _ e.toNat _ (by rw [← len_is]; omega) h.all fun c _ hc => ?_
  obtain ⟨n, hn, hg, _⟩ := item_at (x := x) (i := e - 1) (by omega) (by omega)
  rw [hn, isspace_one] at hs
  have e1 : (e - 1).toNat = e.toNat - 1 := by omega
  rw [e1, hc] at hg
  cases hg
  exact hs
theorem from_nat {x : Str} {e : Int} (h0 : 0 ≤ e) (h1 : e ≤ x.length) : fromIndex x.length e = e.toNat := by unfold fromIndex; omega
theorem find_no {x : Str} {e : Int} (h0 : 0 ≤ e) (h1 : e ≤ x.length) (hf : ¬ 0 ≤ Txt.find3 x (Str.ofString "\n") e) : upto10 (x.cps.toList.drop e.toNat) = x.cps.toList.drop e.toNat := by
  rw [nl_is] at hf
  rcases PySem.StrLaws.find3_spec x 10 e with ⟨_, hn⟩ | ⟨k, hk, _⟩
  · rw [from_nat h0 h1] at hn
    refine upto10_none _ fun hm => ?_
    obtain ⟨j, hj⟩ := List.getElem?_of_mem hm
    rw [List.getElem?_drop] at hj
    have hlt : e.toNat + j < x.cps.toList.length := (List.getElem?_eq_some_iff.mp hj).1
    exact hn (e.toNat + j) (by omega) (by rw [len_is]; exact hlt) (PySem.StrLaws.getD_of_getElem? hj)
  · rw [hk] at hf; omega
theorem find_yes {x : Str} {e : Int} (h0 : 0 ≤ e) (h1 : e ≤ x.length) (hf : 0 ≤ Txt.find3 x (Str.ofString "\n") e) :
    x.cps.toList.take e.toNat ++ upto10 (x.cps.toList.drop e.toNat) = (Txt.slice x none (some (Txt.find3 x (Str.ofString "\n") e)) ++ Str.ofString "\n").cps.toList := by
  rw [nl_is] at hf ⊢
  rcases PySem.StrLaws.find3_spec x 10 e with ⟨hk, _⟩ | ⟨k, hk, hlo, hlt, hc, hn⟩
  · rw [hk] at hf; omega
  · rw [from_nat h0 h1] at hlo hn
    rw [hk, toL_append, slice_to (by omega) (by omega), Int.toNat_natCast]
    have hk' := PySem.StrLaws.getElem?_of_getD hlt hc
    have e1 : upto10 (x.cps.toList.drop e.toNat) = (x.cps.toList.drop e.toNat).take (k - e.toNat + 1) := by
      refine upto10_at _ _ (by rw [List.getElem?_drop, Nat.add_sub_cancel' hlo]; exact hk') fun i hi q => ?_
      rw [List.getElem?_drop] at q
      exact hn (e.toNat + i) (by omega) (by omega) (PySem.StrLaws.getD_of_getElem? q)
    have e2 : k - e.toNat + 1 = (k + 1) - e.toNat := by omega
    have e3 : e.toNat + ((k + 1) - e.toNat) = k + 1 := by omega
    rw [e1, e2, ← List.take_add, e3, List.take_add_one, hk']
    rfl
theorem end_yes {x : Str} {e : Int} (h0 : 0 ≤ e) (h1 : e ≤ x.length) (hf : 0 ≤ Txt.find3 x (Str.ofString "\n") e) (q : endS Unicode.isSpace x.cps.toList = x.cps.toList.take e.toNat ++ upto10 (x.cps.toList.drop e.toNat)) :
    Txt.slice x none (some (Txt.find3 x (Str.ofString "\n") e)) ++ Str.ofString "\n" = Str.mk (endS Unicode.isSpace x.cps.toList).toArray := by
  refine str_eq ?_
  rw [q]
  exact (find_yes h0 h1 hf).symm
theorem end_no {x : Str} {e : Int} (h0 : 0 ≤ e) (h1 : e ≤ x.length) (hf : ¬ 0 ≤ Txt.find3 x (Str.ofString "\n") e) (q : endS Unicode.isSpace x.cps.toList = x.cps.toList.take e.toNat ++ upto10 (x.cps.toList.drop e.toNat)) :
    x = Str.mk (endS Unicode.isSpace x.cps.toList).toArray := by
  refine str_eq ?_
  rw [q, find_no h0 h1 hf, List.take_append_drop]
theorem end_fit {x : Str} {k : Int} (hx : x.length ≤ 100000) : (Txt.slice x none (some k)).length + (Str.ofString "\n").length ≤ sizeLine := by
  have h4 := Txt.slice_le x none (some k)
  have e : (Str.ofString "\n").length = 1 := by decide +kernel
  rw [e, sizeLine_eq]; omega
theorem meas_down {e : Int} (h0 : 0 ≤ e) (h : e ≠ 0) : (e - 1).toNat < e.toNat := by omega
local macro_rules | `(tactic| walk_at "mine enter") => `(tactic| (refine' code_pure ?k1 ?k2 ?k3 ?k5 ?kA ?kF ?kK ?k6 ?k7 ?k8 ?k9 ?kB ?_ ?c2 ?c3 ?c4 ?c5; (case kA => exact rfl); (case kF => exact rfl); (case kK => assumption); (case k1 => k_asm); (case k2 => k_asm); (case k3 => k_asm); (case k5 => k_asm); (case k6 => k_is); (case k7 => k_is); (case k8 => ktr_room); (case k9 => first | exact BindsTo.of_eq rfl | exact binds_K (by k_in) rfl (by k_is) rfl rfl rfl | fail "enter: no rule for these arguments"); (case c5 => decide); (case kB => exact locs rfl); (case c2 => exact rfl); (case c3 => exact rfl); (case c4 => exact rfl); k_whole; intro g' L' h' hg' FG' F' N' B' X' T'; (try dsimp only); (try k_fold)))
local macro_rules | `(tactic| walk_at "mine same") => `(tactic| (intro z h2 h3; (simp only [List.forall_mem_cons, List.not_mem_nil, false_implies, implies_true, and_true, ne_eq] at h2); (try simp only [List.contains_cons, List.contains_nil, Bool.or_false, Bool.or_eq_false_iff, beq_eq_false_iff_ne, ne_eq] at h3); (first | simp only [kstB, h2, h3, if_false, List.contains_cons, List.contains_nil, Bool.or_false, beq_iff_eq, Bool.or_eq_true, or_self, false_or, Bool.false_eq_true, decide_false, Bool.or_self] | simp only [kstB, h2, if_false, List.contains_cons, List.contains_nil, Bool.or_false, beq_iff_eq, Bool.or_eq_true, or_self, false_or, Bool.false_eq_true, decide_false, Bool.or_self])))
local macro_rules | `(tactic| walk_at "KswEnd") => `(tactic| k_extra "kend")
local macro_rules | `(tactic| walk_at "call builtin:str.join") => `(tactic| (k_here; (with_reducible show wpAny _ _ (call (Value.builtin "str.join") [Value.str _ _, Value.ref _]) _ _ _); k_dflt (refine' join_list ?l ?i ?o ?_; (case l => exact News.isList (by k_asm) (by k_mem)); (case i => assumption); (case o => k_extra "join")); intro _ _))
local macro_rules | `(tactic| walk_at "binaryOp Add str str") => `(tactic| (k_here; (with_reducible show wpAny _ _ (binaryOp Operator.Add (Value.str _ _) (Value.str _ _)) _ _ _); (refine SBL.add (hsz := ?hsz) ?_); (case hsz => k_extra "fit"); intro _ _ _))
local macro_rules | `(tactic| walk_at "exec While BoolOp cons nil") => `(tactic| k_extra "my while")
local macro_rules | `(tactic| walk_at "exec While Compare cons nil") => `(tactic| k_extra "my while")
local macro_rules | `(tactic| walk_at "mine call") => `(tactic| ((case k1 => k_asm); (case k2 => k_asm); (case k3 => k_asm); (case k4 => k_asm); (case k5 => k_asm); (case kK => first | exact rfl | assumption); (case kd => ktr_room); (case ku => ktr_units); intro t9 h9 tk9 F9 N9; (try dsimp only); (try k_fold)))
set_option maxHeartbeats 4000000 in
theorem end_spec {prog : Program} {w : World} {p : Program} {loose : List Str} {mean : ExcName → Option Value} {mg mb : Str → Option Value}
    (x : Str) (tx : Tok) (hx : x.length ≤ 100000) : PCall prog w p loose mean mg mb 38 1 [.str x tx] (fun t => .str ⟨(endS Unicode.isSpace x.cps.toList).toArray⟩ t) := by
  intro dp un gd cn cs a ccd cl outer A₀ base h₀ L m s Q E B F X T hk hd hu hret
  refine wpAny_call ?_
  (k_with_none)
  w_top off
  k_dflt (walk_at "mine enter")
  (k_with_none)
  (k_with "kend" => (
    (with_reducible rename News _ _ _ _ => nE'; refine' ksw_end ⟨_, _⟩ ?kF nE' ?kI ?kf ?kk ?ks ?kp ?km);
    (case kF => assumption);
    (case kI => (intro p hp; exact hp));
    (case kf => trivial);
    (case kk => kst_all);
    (case ks => walk_at "mine same");
    (case kp => dsimp only; exact EndInv.step (by assumption) (by assumption) (by assumption) (by assumption) (by assumption));
    (case km => dsimp only; exact meas_down (by assumption) (by assumption))))
  (k_with "fit" => exact end_fit (by assumption))
  (k_with "my while" => (
    (with_reducible rename Fr _ _ _ _ => lF');
    (with_reducible rename News _ _ _ _ => lN');
    (refine' ksw_while (fun c : Int × Nat => []) (fun c => [(Str.ofString "end", Value.int c.1 c.2)]) (fun c => True) [] (fun c => 0 ≤ c.1 ∧ c.1 ≤ x.length ∧ EndInv x c.1) (fun c => (c.1).toNat) (_, _) lF' ?kn ?kf ?kk ?kp ?_ ?hE);
    (case hE => first | passes_own | with_unfolding_all passes_own);
    (case kn => exact lN');
    (case kf => trivial);
    (case kk => kst_all);
    (case kp => exact EndInv.start);
    (clear lF' lN');
    (rintro ⟨e, te⟩ kU kH kTk kFacts ⟨p1, p2, kInv⟩ kFr kNews);
    (dsimp only at p1 p2 kInv kFr kNews);
    (dsimp only);
    (try k_fold)))
  k_steps
  all_goals first
    | exact p_retS (by subst_vars; exact hret) (by subst_vars; assumption) (end_yes (by assumption) (by assumption) (by assumption) (by first | exact EndInv.outZ (by assumption) (by assumption) | exact EndInv.outN (by assumption) (by assumption) (by assumption) (by assumption) (by assumption)))
    | exact p_retS (by subst_vars; exact hret) (by subst_vars; assumption) (end_no (e := e) (by assumption) (by assumption) (by assumption) (by first | exact EndInv.outZ (by assumption) (by assumption) | exact EndInv.outN (by assumption) (by assumption) (by assumption) (by assumption) (by assumption)))
end Mine
namespace Mine
def blank3 (c : Nat) : Bool := c == 32 || c == 9 || c == 10
structure LastInv (x : Str) (j : Nat) (last : Int) : Prop where
  all : ∀ i, last.toNat ≤ i → i < j → ∀ c, x.cps.toList[i]? = some c → blank3 c = true
  stop : ∀ c, 0 < last.toNat → x.cps.toList[last.toNat - 1]? = some c → blank3 c = false
structure NlInv (x : Str) (last : Int) (j : Nat) : Prop where
  all : ∀ i, last.toNat ≤ i → i < last.toNat + j → x.cps.toList[i]? ≠ some 10
structure LastDone (x : Str) (last : Int) : Prop where
  eq : endS blank3 x.cps.toList = x.cps.toList.take last.toNat ++ upto10 (x.cps.toList.drop last.toNat)
theorem nl_yes {n : Nat} (h : (Str.mk #[n] == Str.ofString "\n") = true) : n = 10 := by
  rw [nl_is] at h
  have := eq_of_beq h
  simpa using this
theorem nl_no {n : Nat} (h : (Str.mk #[n] == Str.ofString "\n") = false) : n ≠ 10 := by
  rw [nl_is] at h
  intro q; subst q; simp at h
theorem LastInv.start {x : Str} : 0 ≤ (0 : Int) ∧ (0 : Int) ≤ (([] : List Int).length : Nat) ∧ LastInv x ([] : List Int).length 0 :=
  ⟨by omega, by simp, ⟨fun i _ h => absurd h (Nat.not_lt_zero _), fun c h => absurd h (Nat.lt_irrefl _)⟩⟩
theorem len_snoc (pre : List Int) (k : Int) : (pre ++ [k]).length = pre.length + 1 := by simp
theorem LastInv.stay {x : Str} {pre : List Int} {last k : Int} (h : LastInv x pre.length last) (h0 : 0 ≤ last) (h1 : last ≤ pre.length) (hk : k = 0 + (pre.length : Int)) (hl : pre.length < ((x.length : Int) - 0).toNat)
    (hb : ∀ n, Txt.item x k = Str.mk #[n] → blank3 n = true) : 0 ≤ last ∧ last ≤ ((pre ++ [k]).length : Nat) ∧ LastInv x (pre ++ [k]).length last := by
  rw [len_snoc]
  refine ⟨h0, by omega, ⟨fun i hi hj c hc => ?_, h.stop⟩⟩
  by_cases hq : i < pre.length
  · exact h.all i hi hq c hc
  · obtain ⟨n, hn, hg, _⟩ := item_at (x := x) (i := k) (by omega) (by omega)
    have : i = k.toNat := by omega
    subst this
    rw [hc] at hg
    cases hg
    exact hb _ hn
theorem LastInv.sp {x : Str} {pre : List Int} {last k : Int} (h : LastInv x pre.length last) (h0 : 0 ≤ last) (h1 : last ≤ pre.length) (hk : k = 0 + (pre.length : Int)) (hl : pre.length < ((x.length : Int) - 0).toNat)
    (e : (Txt.item x k != Str.ofString " ") = false) : 0 ≤ last ∧ last ≤ ((pre ++ [k]).length : Nat) ∧ LastInv x (pre ++ [k]).length last :=
  h.stay h0 h1 hk hl fun n hn => by
    rw [hn] at e
    have := sp_yes (n := n) (by simpa [bne] using e)
    subst this; rfl
theorem LastInv.tb {x : Str} {pre : List Int} {last k : Int} (h : LastInv x pre.length last) (h0 : 0 ≤ last) (h1 : last ≤ pre.length) (hk : k = 0 + (pre.length : Int)) (hl : pre.length < ((x.length : Int) - 0).toNat)
    (e : (Txt.item x k != Str.ofString "\t") = false) : 0 ≤ last ∧ last ≤ ((pre ++ [k]).length : Nat) ∧ LastInv x (pre ++ [k]).length last :=
  h.stay h0 h1 hk hl fun n hn => by
    rw [hn] at e
    have := tb_yes (n := n) (by simpa [bne] using e)
    subst this; rfl
theorem LastInv.nl {x : Str} {pre : List Int} {last k : Int} (h : LastInv x pre.length last) (h0 : 0 ≤ last) (h1 : last ≤ pre.length) (hk : k = 0 + (pre.length : Int)) (hl : pre.length < ((x.length : Int) - 0).toNat)
    (e : (Txt.item x k != Str.ofString "\n") = false) : 0 ≤ last ∧ last ≤ ((pre ++ [k]).length : Nat) ∧ LastInv x (pre ++ [k]).length last :=
  h.stay h0 h1 hk hl fun n hn => by
    rw [hn] at e
    have := nl_yes (n := n) (by simpa [bne] using e)
    subst this; rfl
theorem LastInv.sign {x : Str} {pre : List Int} {last k : Int} (h : LastInv x pre.length last) (hk : k = 0 + (pre.length : Int)) (hl : pre.length < ((x.length : Int) - 0).toNat)
    (e1 : (Txt.item x k != Str.ofString " ") = true) (e2 : (Txt.item x k != Str.ofString "\t") = true) (e3 : (Txt.item x k != Str.ofString "\n") = true) : 0 ≤ k + 1 ∧ k + 1 ≤ ((pre ++ [k]).length : Nat) ∧ LastInv x (pre ++ [k]).length (k + 1) := by
  rw [len_snoc]
  obtain ⟨n, hn, hg, _⟩ := item_at (x := x) (i := k) (by omega) (by omega)
  rw [hn] at e1 e2 e3
  have f1 := sp_no (bne_false e1)
  have f2 := tb_no (bne_false e2)
  have f3 := nl_no (bne_false e3)
  refine ⟨by omega, by omega, ⟨fun i hi hj => by omega, fun c _ hc => ?_⟩⟩
  have e4 : (k + 1).toNat - 1 = k.toNat := by omega
  rw [e4, hg] at hc
  cases hc
  simp [blank3, f1, f2, f3]
theorem LastInv.over {x : Str} {last : Int} {l : List Int} (h : LastInv x l.length last) (hl : l.length = ((x.length : Int) - 0).toNat) (h0 : 0 ≤ last) (h1 : last ≤ l.length) : last ≤ x.length ∧ LastDone x last := by
  refine ⟨by omega, ⟨endS_at _ _ _ (by rw [← len_is]; omega) (fun c hc => ?_) h.stop⟩⟩
  obtain ⟨i, hi⟩ := List.getElem?_of_mem hc
  rw [List.getElem?_drop] at hi
  have hlt : last.toNat + i < x.cps.toList.length := (List.getElem?_eq_some_iff.mp hi).1
  rw [← len_is] at hlt
  exact h.all (last.toNat + i) (by omega) (by omega) c hi
theorem NlInv.start {x : Str} {last : Int} : NlInv x last ([] : List Int).length := ⟨fun i h1 h2 => by simp at h2; omega⟩
theorem NlInv.step {x : Str} {last k : Int} {pre : List Int} (h : NlInv x last pre.length) (h0 : 0 ≤ last) (hk : k = last + (pre.length : Int)) (hl : pre.length < ((x.length : Int) - last).toNat) (e : (Txt.item x k == Str.ofString "\n") = false) :
    NlInv x last (pre ++ [k]).length := by
  rw [len_snoc]
  refine ⟨fun i hi hj => ?_⟩
  by_cases hq : i < last.toNat + pre.length
  · exact h.all i hi hq
  · obtain ⟨n, hn, hg, _⟩ := item_at (x := x) (i := k) (by omega) (by omega)
    have : i = k.toNat := by omega
    subst this
    rw [hn] at e
    rw [hg]
    intro q
    cases q
    exact nl_no e rfl
theorem NlInv.found {x : Str} {last k : Int} {pre : List Int} (h : NlInv x last pre.length) (d : LastDone x last) (h0 : 0 ≤ last) (hk : k = last + (pre.length : Int)) (hl : pre.length < ((x.length : Int) - last).toNat) (e : (Txt.item x k == Str.ofString "\n") = true) :
    Txt.slice x none (some (k + 1)) = Str.mk (endS blank3 x.cps.toList).toArray := by
  obtain ⟨n, hn, hg, _⟩ := item_at (x := x) (i := k) (by omega) (by omega)
  rw [hn] at e
  have := nl_yes e
  subst this
  refine str_eq ?_
  show _ = endS blank3 x.cps.toList
  rw [slice_to (by omega) (by omega), d.eq]
  have e1 : upto10 (x.cps.toList.drop last.toNat) = (x.cps.toList.drop last.toNat).take (pre.length + 1) := by
    refine upto10_at _ _ (by rw [List.getElem?_drop]; have e2 : last.toNat + pre.length = k.toNat := by omega
                             rw [e2]; exact hg) fun i hi => ?_
    rw [List.getElem?_drop]
    exact h.all _ (by omega) (by omega)
  have e3 : (k + 1).toNat = last.toNat + (pre.length + 1) := by omega
  rw [e1, ← List.take_add, e3]
theorem NlInv.over {x : Str} {last : Int} {l : List Int} (h : NlInv x last l.length) (d : LastDone x last) (h0 : 0 ≤ last) (hl : l.length = ((x.length : Int) - last).toNat) : x = Str.mk (endS blank3 x.cps.toList).toArray := by
  refine str_eq ?_
  show _ = endS blank3 x.cps.toList
  rw [d.eq, upto10_none, List.take_append_drop]
  intro hm
  obtain ⟨i, hi⟩ := List.getElem?_of_mem hm
  rw [List.getElem?_drop] at hi
  have hlt : last.toNat + i < x.cps.toList.length := (List.getElem?_eq_some_iff.mp hi).1
  rw [← len_is] at hlt
  exact h.all (last.toNat + i) (by omega) (by omega) hi
local macro_rules | `(tactic| walk_at "mine enter") => `(tactic| (refine' code_pure ?k1 ?k2 ?k3 ?k5 ?kA ?kF ?kK ?k6 ?k7 ?k8 ?k9 ?kB ?_ ?c2 ?c3 ?c4 ?c5; (case kA => exact rfl); (case kF => exact rfl); (case kK => assumption); (case k1 => k_asm); (case k2 => k_asm); (case k3 => k_asm); (case k5 => k_asm); (case k6 => k_is); (case k7 => k_is); (case k8 => ktr_room); (case k9 => first | exact BindsTo.of_eq rfl | exact binds_K (by k_in) rfl (by k_is) rfl rfl rfl | fail "enter: no rule for these arguments"); (case c5 => decide); (case kB => exact locs rfl); (case c2 => exact rfl); (case c3 => exact rfl); (case c4 => exact rfl); k_whole; intro g' L' h' hg' FG' F' N' B' X' T'; (try dsimp only); (try k_fold)))
local macro_rules | `(tactic| walk_at "mine same") => `(tactic| (intro z h2 h3; (simp only [List.forall_mem_cons, List.not_mem_nil, false_implies, implies_true, and_true, ne_eq] at h2); (try simp only [List.contains_cons, List.contains_nil, Bool.or_false, Bool.or_eq_false_iff, beq_eq_false_iff_ne, ne_eq] at h3); (first | simp only [kstB, h2, h3, if_false, List.contains_cons, List.contains_nil, Bool.or_false, beq_iff_eq, Bool.or_eq_true, or_self, false_or, Bool.false_eq_true, decide_false, Bool.or_self] | simp only [kstB, h2, if_false, List.contains_cons, List.contains_nil, Bool.or_false, beq_iff_eq, Bool.or_eq_true, or_self, false_or, Bool.false_eq_true, decide_false, Bool.or_self])))
local macro_rules | `(tactic| walk_at "KswEnd") => `(tactic| k_dflt (k_extra "kend"))
local macro_rules | `(tactic| walk_at "call builtin:str.join") => `(tactic| (k_here; (with_reducible show wpAny _ _ (call (Value.builtin "str.join") [Value.str _ _, Value.ref _]) _ _ _); k_dflt (refine' join_list ?l ?i ?o ?_; (case l => exact News.isList (by k_asm) (by k_mem)); (case i => assumption); (case o => k_extra "join")); intro _ _))
local macro_rules | `(tactic| walk_at "binaryOp Add str str") => `(tactic| (k_here; (with_reducible show wpAny _ _ (binaryOp Operator.Add (Value.str _ _) (Value.str _ _)) _ _ _); (refine SBL.add (hsz := ?hsz) ?_); (case hsz => k_extra "fit"); intro _ _ _))
local macro_rules | `(tactic| walk_at "exec While BoolOp cons nil") => `(tactic| k_dflt (k_extra "my while"))
local macro_rules | `(tactic| walk_at "exec While Compare cons nil") => `(tactic| k_dflt (k_extra "my while"))
local macro_rules | `(tactic| walk_at "mine call") => `(tactic| ((case k1 => k_asm); (case k2 => k_asm); (case k3 => k_asm); (case k4 => k_asm); (case k5 => k_asm); (case kK => first | exact rfl | assumption); (case kd => ktr_room); (case ku => ktr_units); intro t9 h9 tk9 F9 N9; (try dsimp only); (try k_fold)))
local macro_rules | `(tactic| walk_at "pyIter ref") => `(tactic| k_dflt (k_extra "my for"))
local macro_rules | `(tactic| walk_at "InvEndN") => `(tactic| k_dflt (k_extra "fend"))
local macro_rules | `(tactic| walk_at "mine for same") => `(tactic| (intro z h1 h2 h3; (try simp only [List.forall_mem_cons, List.not_mem_nil, false_implies, implies_true, and_true, ne_eq] at h2); (try simp only [List.contains_cons, List.contains_nil, Bool.or_false, Bool.or_eq_false_iff, beq_eq_false_iff_ne, ne_eq] at h3); (first | simp only [kstB, h1, h2, h3, if_false, List.contains_cons, List.contains_nil, Bool.or_false, beq_iff_eq, Bool.or_eq_true, or_self, false_or, Bool.false_eq_true, decide_false, Bool.or_self] | simp only [kstB, h1, h2, if_false, List.contains_cons, List.contains_nil, Bool.or_false, beq_iff_eq, Bool.or_eq_true, or_self, false_or, Bool.false_eq_true, decide_false, Bool.or_self] | simp only [kstB, h1, h3, if_false, List.contains_cons, List.contains_nil, Bool.or_false, beq_iff_eq, Bool.or_eq_true, or_self, false_or, Bool.false_eq_true, decide_false, Bool.or_self] | simp only [kstB, h1, if_false, List.contains_cons, List.contains_nil, Bool.or_false, beq_iff_eq, Bool.or_eq_true, or_self, false_or, Bool.false_eq_true, decide_false, Bool.or_self])))
set_option maxHeartbeats 4000000 in
theorem ended_spec {prog : Program} {w : World} {p : Program} {loose : List Str} {mean : ExcName → Option Value} {mg mb : Str → Option Value}
    (x : Str) (tx : Tok) (hx : x.length ≤ 100000) : PCall prog w p loose mean mg mb 121 1 [.str x tx] (fun t => .str ⟨(endS blank3 x.cps.toList).toArray⟩ t) := by
  intro dp un gd cn cs a ccd cl outer A₀ base h₀ L m s Q E B F X T hk hd hu hret
  refine wpAny_call ?_
  (k_with_none)
  w_top off
  k_dflt (walk_at "mine enter")
  (k_with_none)
  (k_with "fend" => (
    (with_reducible rename News _ _ _ _ => nE');
    (first | refine' kst_end (σ := Int × Nat) ⟨_, _⟩ ?kF nE' ?kI ?ko ?ka ?kf ?kk ?ks ?kp | refine' kst_end (σ := Unit) () ?kF nE' ?kI ?ko ?ka ?kf ?kk ?ks ?kp);
    (case kF => assumption);
    (case kI => (intro p hp; nomatch hp));
    (case ko => (intro p hp; first | exact hp | simpa using hp));
    (case ka => rfl);
    (case kf => trivial);
    (case kk => kst_all);
    (case ks => walk_at "mine for same");
    (case kp => (try dsimp only); first
      | exact NlInv.step (by assumption) (by assumption) (by assumption) (by assumption) (by assumption)
      | exact LastInv.sp (by assumption) (by assumption) (by assumption) (by assumption) (by assumption) (by assumption)
      | exact LastInv.tb (by assumption) (by assumption) (by assumption) (by assumption) (by assumption) (by assumption)
      | exact LastInv.nl (by assumption) (by assumption) (by assumption) (by assumption) (by assumption) (by assumption)
      | exact LastInv.sign (by assumption) (by assumption) (by assumption) (by assumption) (by assumption) (by assumption))))
  (k_with "my for" => (
    (with_reducible rename Fr _ _ _ _ => lF');
    (with_reducible rename News _ _ _ _ => lN');
    (with_reducible rename IsRange _ _ _ _ _ _ _ _ => rgX);
    (refine' kst_range (fun c : Int × Nat => []) (fun c => [(Str.ofString "last", Value.int c.1 c.2)]) (fun c => True) [] (fun pre c => 0 ≤ c.1 ∧ c.1 ≤ pre.length ∧ LastInv x pre.length c.1) (0, _) (by rfl) (by first | exact rgX | assumption) (small_one (by omega) (by omega) (by omega) (by omega)) (rangeSize_nat _ _) lF' ?kn ?kf ?kk ?kp ?_ ?_);
    (case kn => exact lN');
    (case kf => trivial);
    (case kk => kst_all);
    (case kp => exact LastInv.start);
    (all_goals (clear lF' lN' rgX));
    (all_goals first | rintro ⟨last, tl⟩ pre k t kU kH kTk own hk1 hk2 kOff kFacts ⟨p1, p2, kInv⟩ kFr kNews | (rintro ⟨last, tl⟩ kU kH kTk kFacts ⟨p1, p2, kInv⟩ kFr kNews; (replace kInv := LastInv.over kInv (rangeKs_length _ _) p1 p2); obtain ⟨p3, kDone⟩ := kInv; clear p2));
    (all_goals dsimp only at *);
    (all_goals (try k_fold))))
  (k_with "my for" => (
    (with_reducible rename LastDone _ _ => kD);
    (with_reducible rename Fr _ _ _ _ => lF');
    (with_reducible rename News _ _ _ _ => lN');
    (with_reducible rename IsRange _ _ _ _ _ _ _ _ => rgX);
    (refine' kst_range (fun c : Unit => []) (fun c => []) (fun c => True) [] (fun pre c => NlInv x last pre.length) () (by rfl) (by first | exact rgX | assumption) (small_one (by omega) (by omega) (by omega) (by omega)) (rangeSize_nat _ _) lF' ?kn ?kf ?kk ?kp ?_ ?_);
    (case kn => exact lN');
    (case kf => trivial);
    (case kk => kst_all);
    (case kp => exact NlInv.start);
    (all_goals (clear lF' lN' rgX));
    (all_goals first | rintro ⟨⟩ pre k t kU kH kTk own hk1 hk2 kOff kFacts kInv kFr kNews | rintro ⟨⟩ kU kH kTk kFacts kInv kFr kNews);
    (all_goals dsimp only at *);
    (all_goals (try k_fold))))
  k_steps
  all_goals first
    | exact p_retS (by subst_vars; exact hret) (by subst_vars; assumption) (NlInv.found (by assumption) (by assumption) (by assumption) (by assumption) (by assumption) (by assumption))
    | exact p_retS (by subst_vars; exact hret) (by subst_vars; assumption) (NlInv.over (by assumption) (by assumption) (by assumption) (rangeKs_length _ _))
end Mine
namespace Mine
local macro_rules | `(tactic| walk_at "no such way") => `(tactic| skip)
abbrev PCallB (P : Heap → Prop) (prog : Program) (w : World) (p : Program) (loose : List Str) (mean : ExcName → Option Value) (mg mb : Str → Option Value) (f : Addr) (d : Nat) (vs : List Value) (V : Tok → Value) : Prop :=
  ∀ (dp un : Nat) (gd : Option (List Code)) (cn : Str) (cs : Scope) (a : Addr) (ccd : Value) (cl : List (Str × Addr)) (outer : List Env) (A₀ : Around) (base h₀ : Heap) (L : Addr) (m : Str → Option Value) (s : Shared) (Q E : Value → Shared → Prop),
    P base → Below A₀ base outer h₀ → Fr h₀ L s.heap m → (hd.heap_39 w.params).In h₀ → Top p loose mean mg mb h₀ → cs.kind = .function → dp + d < recursionLimit → un + 8 * d < cLine →
    PRet s Q V → wpAny (model prog w) (ktrTop dp un gd cn cs L a ccd cl outer) (call (.ref f) vs) Q E s
theorem pcall_useB {P : Heap → Prop} {prog : Program} {w : World} {p : Program} {loose : List Str} {mean : ExcName → Option Value} {mg mb : Str → Option Value} {f : Addr} {d : Nat} {vs : List Value} {V : Tok → Value}
    {dp un : Nat} {gd : Option (List Code)} {cn : Str} {cs : Scope} {a : Addr} {ccd : Value} {cl : List (Str × Addr)} {outer : List Env} {A₀ : Around} {base h₀ : Heap} {L : Addr} {m : Str → Option Value} {news : List (Addr × Obj)} {s : Shared} {Q E : Value → Shared → Prop}
    (C : PCallB P prog w p loose mean mg mb f d vs V) (hP : P base) (B : Below A₀ base outer h₀) (F : Fr h₀ L s.heap m) (X : (hd.heap_39 w.params).In h₀) (N : News h₀ L s.heap news) (T : Top p loose mean mg mb h₀) (hk : cs.kind = .function) (hd : dp + d < recursionLimit) (hu : un + 8 * d < cLine)
    (ret : ∀ (t : Tok) (h' : Heap) (tk' : Nat), Fr h₀ L h' m → News h₀ L h' news → Q (V t) { s with heap := h', toks := tk' }) :
    wpAny (model prog w) (ktrTop dp un gd cn cs L a ccd cl outer) (call (.ref f) vs) Q E s := by
  refine C dp un gd cn cs a ccd cl outer A₀ base h₀ L m s Q E hP B F X T hk hd hu fun t h' tk' st => ?_
  obtain ⟨oL, es, ep, hL, hLd, hLk, hLf⟩ := F.ns
  exact ret t h' tk' ⟨⟨oL, es, ep, st _ _ hL, hLd, hLk, hLf⟩, fun b o e => st b o (F.keep b o e), F.above⟩ (fun p hp => ⟨st _ _ (N p hp).1, (N p hp).2.1, (N p hp).2.2⟩)
def lawAt (ns : List Int) (k : Int) : Int := if ns.length = 0 then 7 * k + 3 else ns.getD (k.fmod (ns.length : Int)).toNat 0 + 3 * (k.fdiv (ns.length : Int))
theorem lawAt_some {ns : List Int} {k : Int} (h : 0 < ns.length) : ns.getD (k.fmod (ns.length : Int)).toNat 0 + 3 * (k.fdiv (ns.length : Int)) = lawAt ns k := by
  unfold lawAt; rw [if_neg (by omega)]
theorem lawAt_none {ns : List Int} {k : Int} (h : ¬ 0 < ns.length) : 7 * k + 3 = lawAt ns k := by
  unfold lawAt; rw [if_pos (by omega)]
local macro_rules | `(tactic| walk_at "mine enter") => `(tactic| (refine' code_pure ?k1 ?k2 ?k3 ?k5 ?kA ?kF ?kK ?k6 ?k7 ?k8 ?k9 ?kB ?_ ?c2 ?c3 ?c4 ?c5; (case kA => exact rfl); (case kF => exact rfl); (case kK => assumption); (case k1 => k_asm); (case k2 => k_asm); (case k3 => k_asm); (case k5 => k_asm); (case k6 => k_is); (case k7 => k_is); (case k8 => ktr_room); (case k9 => first | exact BindsTo.of_eq rfl | exact binds_K (by k_in) rfl (by k_is) rfl rfl rfl | fail "enter: no rule for these arguments"); (case c5 => decide); (case kB => exact locs rfl); (case c2 => exact rfl); (case c3 => exact rfl); (case c4 => exact rfl); k_whole; intro g' L' h' hg' FG' F' N' B' X' T'; (try dsimp only); (try k_lift B'); (try k_fold)))
local macro_rules | `(tactic| walk_at "mine same") => `(tactic| (intro z h2 h3; (simp only [List.forall_mem_cons, List.not_mem_nil, false_implies, implies_true, and_true, ne_eq] at h2); (try simp only [List.contains_cons, List.contains_nil, Bool.or_false, Bool.or_eq_false_iff, beq_eq_false_iff_ne, ne_eq] at h3); (first | simp only [kstB, h2, h3, if_false, List.contains_cons, List.contains_nil, Bool.or_false, beq_iff_eq, Bool.or_eq_true, or_self, false_or, Bool.false_eq_true, decide_false, Bool.or_self] | simp only [kstB, h2, if_false, List.contains_cons, List.contains_nil, Bool.or_false, beq_iff_eq, Bool.or_eq_true, or_self, false_or, Bool.false_eq_true, decide_false, Bool.or_self])))
local macro_rules | `(tactic| walk_at "KswEnd") => `(tactic| k_dflt (k_extra "kend"))
local macro_rules | `(tactic| walk_at "call builtin:str.join") => `(tactic| (k_here; (with_reducible show wpAny _ _ (call (Value.builtin "str.join") [Value.str _ _, Value.ref _]) _ _ _); k_dflt (refine' join_list ?l ?i ?o ?_; (case l => exact News.isList (by k_asm) (by k_mem)); (case i => assumption); (case o => k_extra "join")); intro _ _))
local macro_rules | `(tactic| walk_at "binaryOp Add str str") => `(tactic| (k_here; (with_reducible show wpAny _ _ (binaryOp Operator.Add (Value.str _ _) (Value.str _ _)) _ _ _); (refine SBL.add (hsz := ?hsz) ?_); (case hsz => k_extra "fit"); intro _ _ _))
local macro_rules | `(tactic| walk_at "exec While BoolOp cons nil") => `(tactic| k_dflt (k_extra "my while"))
local macro_rules | `(tactic| walk_at "exec While Compare cons nil") => `(tactic| k_dflt (k_extra "my while"))
local macro_rules | `(tactic| walk_at "mine call") => `(tactic| ((case k1 => k_asm); (case k2 => k_asm); (case k3 => k_asm); (case k4 => k_asm); (case k5 => k_asm); (case kK => first | exact rfl | assumption); (case kd => ktr_room); (case ku => ktr_units); intro t9 h9 tk9 F9 N9; (try dsimp only); (try k_fold)))
local macro_rules | `(tactic| walk_at "pyIter ref") => `(tactic| k_dflt (k_extra "my for"))
local macro_rules | `(tactic| walk_at "InvEndN") => `(tactic| k_dflt (k_extra "fend"))
local macro_rules | `(tactic| walk_at "mine for same") => `(tactic| (intro z h1 h2 h3; (try simp only [List.forall_mem_cons, List.not_mem_nil, false_implies, implies_true, and_true, ne_eq] at h2); (try simp only [List.contains_cons, List.contains_nil, Bool.or_false, Bool.or_eq_false_iff, beq_eq_false_iff_ne, ne_eq] at h3); (first | simp only [kstB, h1, h2, h3, if_false, List.contains_cons, List.contains_nil, Bool.or_false, beq_iff_eq, Bool.or_eq_true, or_self, false_or, Bool.false_eq_true, decide_false, Bool.or_self] | simp only [kstB, h1, h2, if_false, List.contains_cons, List.contains_nil, Bool.or_false, beq_iff_eq, Bool.or_eq_true, or_self, false_or, Bool.false_eq_true, decide_false, Bool.or_self] | simp only [kstB, h1, h3, if_false, List.contains_cons, List.contains_nil, Bool.or_false, beq_iff_eq, Bool.or_eq_true, or_self, false_or, Bool.false_eq_true, decide_false, Bool.or_self] | simp only [kstB, h1, if_false, List.contains_cons, List.contains_nil, Bool.or_false, beq_iff_eq, Bool.or_eq_true, or_self, false_or, Bool.false_eq_true, decide_false, Bool.or_self])))
set_option maxHeartbeats 4000000 in
theorem at_spec {prog : Program} {w : World} {p : Program} {loose : List Str} {mean : ExcName → Option Value} {mg mb : Str → Option Value}
    (l : Addr) (vs : List Value) (ns : List Int) (k : Int) (tk : Tok) (hi : IntsAre vs ns) (hl : ns.length ≤ 63) (h0 : 0 ≤ k) (h1 : k ≤ 100) : PCallB (fun base => base.IsList l vs.toArray) prog w p loose mean mg mb 107 1 [.ref l, .int k tk] (fun t => .int (lawAt ns k) t) := by
  intro dp un gd cn cs a ccd cl outer A₀ base h₀ L m s Q E hP B F X T hk hd hu hret
  refine wpAny_call ?_
  (k_with_none)
  w_top off
  k_dflt (walk_at "mine enter")
  (k_with_none)
  k_steps
  · exact p_retI (by subst_vars; exact hret) (by subst_vars; assumption) (lawAt_some (by assumption))
  · exact p_retI (by subst_vars; exact hret) (by subst_vars; assumption) (lawAt_none (by assumption))
end Mine
namespace Mine
def blank2 (c : Nat) : Bool := c == 32 || c == 9
structure LeadInv (start : Int) (lead : Str) (col : Int) : Prop where
  all : ∀ c ∈ lead.cps.toList, blank2 c = true
  col : col = (cnt lead.cps.toList start.toNat : Nat)
theorem cnt_app : ∀ (l r : List Nat) (s : Nat), (∀ c ∈ l, blank2 c = true) → cnt (l ++ r) s = cnt r (cnt l s)
  | [], _, _, _ => rfl
  | c :: l, r, s, h => by
    have hc := h c (List.mem_cons_self ..)
    have hl := fun a ha => h a (List.mem_cons_of_mem c ha)
    rw [List.cons_append]
    by_cases h1 : c = 32
    · rw [cnt, cnt, if_pos h1, if_pos h1, cnt_app l r _ hl]
    · by_cases h2 : c = 9
      · rw [cnt, cnt, if_neg h1, if_neg h1, if_pos h2, if_pos h2, cnt_app l r _ hl]
      · simp [blank2, h1, h2] at hc
theorem LeadInv.start {st : Int} (h0 : 0 ≤ st) : (Str.ofString "").length ≤ ([] : List Int).length ∧ 0 ≤ st ∧ LeadInv st (Str.ofString "") st := by
  rw [em_is]
  exact ⟨Nat.le_refl _, h0, ⟨fun c hc => (by simp at hc), (by show st = (st.toNat : Int); omega)⟩⟩
theorem LeadInv.sp {st : Int} {lead : Str} {col k : Int} {pre : List Int} (h : LeadInv st lead col) (h0 : 0 ≤ col) (hl : lead.length ≤ pre.length) :
    (lead ++ Str.ofString " ").length ≤ (pre ++ [k]).length ∧ 0 ≤ col + 1 ∧ LeadInv st (lead ++ Str.ofString " ") (col + 1) := by
  obtain ⟨ha, hc⟩ := h
  refine ⟨?_, by omega, ⟨fun c hm => ?_, ?_⟩⟩
  · rw [len_snoc, len_is, toL_append, sp_is, List.length_append, ← len_is]; simp; omega
  · rw [toL_append, sp_is] at hm
    rcases List.mem_append.mp hm with h | h
    · exact ha c h
    · have : c = 32 := by simpa using h
      subst this; rfl
  · rw [toL_append, sp_is, cnt_app _ _ _ ha]
    show col + 1 = ((cnt lead.cps.toList st.toNat + 1 : Nat) : Int)
    omega
theorem LeadInv.tb {st : Int} {lead : Str} {col c2 k : Int} {pre : List Int} (h : LeadInv st lead col) (h0 : 0 ≤ col) (hl : lead.length ≤ pre.length) (q1 : col + 1 ≤ c2) (q2 : c2 ≤ col + (4 - col.fmod 4)) (hz : c2.fmod 4 = 0) :
    (lead ++ Str.ofString "\t").length ≤ (pre ++ [k]).length ∧ 0 ≤ c2 ∧ LeadInv st (lead ++ Str.ofString "\t") c2 := by
  obtain ⟨ha, hc⟩ := h
  have e1 := Int.fmod_eq_emod_of_nonneg col (b := 4) (by omega)
  have e2 := Int.fmod_eq_emod_of_nonneg c2 (b := 4) (by omega)
  have e3 : c2 = col + (4 - col.fmod 4) := by omega
  refine ⟨?_, by omega, ⟨fun c hm => ?_, ?_⟩⟩
  · rw [len_snoc, len_is, toL_append, tb_is, List.length_append, ← len_is]; simp; omega
  · rw [toL_append, tb_is] at hm
    rcases List.mem_append.mp hm with h | h
    · exact ha c h
    · have : c = 9 := by simpa using h
      subst this; rfl
  · rw [toL_append, tb_is, cnt_app _ _ _ ha, e3, tab_step h0]
    show ((col.toNat + (4 - col.toNat % 4) : Nat) : Int) = ((cnt lead.cps.toList st.toNat + (4 - cnt lead.cps.toList st.toNat % 4) : Nat) : Int)
    have e4 : col.toNat = cnt lead.cps.toList st.toNat := by omega
    rw [e4]
theorem lead_fit {lead : Str} {pre : List Int} {q : Int} (hl : lead.length ≤ pre.length) (hp : pre.length < (q - 0).toNat) (hq : q ≤ 7) {c : Nat} : lead.length + (Str.mk #[c]).length ≤ sizeLine := by
  show lead.length + 1 ≤ sizeLine
  rw [sizeLine_eq]; omega
theorem in_start {col : Int} : col + 1 ≤ col + 1 ∧ col + 1 ≤ col + (4 - col.fmod 4) := by
  have b := Int.fmod_eq_emod_of_nonneg col (b := 4) (by omega)
  omega
theorem in_step {col c2 : Int} (h0 : 0 ≤ col) (q1 : col + 1 ≤ c2) (q2 : c2 ≤ col + (4 - col.fmod 4)) (hz : c2.fmod 4 ≠ 0) : col + 1 ≤ c2 + 1 ∧ c2 + 1 ≤ col + (4 - col.fmod 4) := by
  have e1 := Int.fmod_eq_emod_of_nonneg col (b := 4) (by omega)
  have e2 := Int.fmod_eq_emod_of_nonneg c2 (b := 4) (by omega)
  omega
theorem in_meas {col c2 : Int} (q2 : c2 ≤ col + (4 - col.fmod 4)) (hz : c2.fmod 4 ≠ 0) (q1 : col + 1 ≤ c2) (h0 : 0 ≤ col) : (col + 4 - (c2 + 1)).toNat < (col + 4 - c2).toNat := by
  have e1 := Int.fmod_eq_emod_of_nonneg col (b := 4) (by omega)
  have e2 := Int.fmod_eq_emod_of_nonneg c2 (b := 4) (by omega)
  omega
def bodiesL : List Str := [Str.ofString "", Str.ofString "a", Str.ofString "b c", Str.ofString "d\te", Str.ofString "h\t i"]
abbrev tupO (vs : List Value) : Obj := { cls := .type "tuple", data := .seq vs.toArray }
abbrev LRet (h₀ : Heap) (L : Addr) (s : Shared) (Q : Value → Shared → Prop) (st : Int) : Prop :=
  ∀ (lead : Str) (col : Int) (body : Str) (tl tc tb : Tok) (D : Addr) (h' : Heap) (tk' : Nat), LeadInv st lead col → lead.length ≤ 7 → body ∈ bodiesL → s.heap.StaysIn h' → News h₀ L h' [(D, tupO [.str lead tl, .int (col - st) tc, .str body tb])] → Q (.ref D) { s with heap := h', toks := tk' }
theorem line_ret {h₀ : Heap} {L : Addr} {s : Shared} {Q : Value → Shared → Prop} {st : Int} {lead : Str} {col : Int} {body : Str} {tl tc tb : Tok} {D : Addr} {h' : Heap} {tk' : Nat} {rest : List (Addr × Obj)} {x : Int} (hret : LRet h₀ L s Q st) (h1 : LeadInv st lead col) (h2 : lead.length ≤ (rangeKs 0 (x - 0).toNat).length) (hx : x ≤ 7) (h3 : body ∈ bodiesL) (h4 : s.heap.StaysIn h')
    (N : News h₀ L h' ((D, tupO [.str lead tl, .int (col - st) tc, .str body tb]) :: rest)) : Q (.ref D) { s with heap := h', toks := tk' } :=
  hret lead col body tl tc tb D h' tk' h1 (by rw [rangeKs_length] at h2; omega) h3 h4 (fun p hp => N p (by rw [List.mem_singleton.mp hp]; exact List.mem_cons_self ..))
theorem fm_bound (nu : Int) {mo : Int} (h2 : 0 ≤ mo) (h3 : mo ≤ 7) : 0 ≤ nu.fmod (mo + 1) ∧ nu.fmod (mo + 1) ≤ 7 := by
  have a := Int.fmod_nonneg_of_pos nu (b := mo + 1) (by omega)
  have b := Int.fmod_eq_emod_of_nonneg nu (b := mo + 1) (by omega)
  have c := Int.emod_lt_of_pos nu (b := mo + 1) (by omega)
  omega
local macro_rules | `(tactic| walk_at "mine enter") => `(tactic| (refine' code_pure ?k1 ?k2 ?k3 ?k5 ?kA ?kF ?kK ?k6 ?k7 ?k8 ?k9 ?kB ?_ ?c2 ?c3 ?c4 ?c5; (case kA => exact rfl); (case kF => exact rfl); (case kK => assumption); (case k1 => k_asm); (case k2 => k_asm); (case k3 => k_asm); (case k5 => k_asm); (case k6 => k_is); (case k7 => k_is); (case k8 => ktr_room); (case k9 => first | exact BindsTo.of_eq rfl | exact binds_K (by k_in) rfl (by k_is) rfl rfl rfl | fail "enter: no rule for these arguments"); (case c5 => decide); (case kB => exact locs rfl); (case c2 => exact rfl); (case c3 => exact rfl); (case c4 => exact rfl); k_whole; intro g' L' h' hg' FG' F' N' B' X' T'; (try dsimp only); (try k_lift B'); (try k_fold)))
local macro_rules | `(tactic| walk_at "mine same") => `(tactic| (intro z h2 h3; (simp only [List.forall_mem_cons, List.not_mem_nil, false_implies, implies_true, and_true, ne_eq] at h2); (try simp only [List.contains_cons, List.contains_nil, Bool.or_false, Bool.or_eq_false_iff, beq_eq_false_iff_ne, ne_eq] at h3); (first | simp only [kstB, h2, h3, if_false, List.contains_cons, List.contains_nil, Bool.or_false, beq_iff_eq, Bool.or_eq_true, or_self, false_or, Bool.false_eq_true, decide_false, Bool.or_self] | simp only [kstB, h2, if_false, List.contains_cons, List.contains_nil, Bool.or_false, beq_iff_eq, Bool.or_eq_true, or_self, false_or, Bool.false_eq_true, decide_false, Bool.or_self])))
local macro_rules | `(tactic| walk_at "KswEnd") => `(tactic| k_dflt (k_extra "kend"))
local macro_rules | `(tactic| walk_at "call builtin:str.join") => `(tactic| (k_here; (with_reducible show wpAny _ _ (call (Value.builtin "str.join") [Value.str _ _, Value.ref _]) _ _ _); k_dflt (refine' join_list ?l ?i ?o ?_; (case l => exact News.isList (by k_asm) (by k_mem)); (case i => assumption); (case o => k_extra "join")); intro _ _))
local macro_rules | `(tactic| walk_at "binaryOp Add str str") => `(tactic| (k_here; (with_reducible show wpAny _ _ (binaryOp Operator.Add (Value.str _ _) (Value.str _ _)) _ _ _); (refine SBL.add (hsz := ?hsz) ?_); (case hsz => k_extra "fit"); intro _ _ _))
local macro_rules | `(tactic| walk_at "exec While BoolOp cons nil") => `(tactic| k_dflt (k_extra "my while"))
local macro_rules | `(tactic| walk_at "exec While Compare cons nil") => `(tactic| k_dflt (k_extra "my while"))
local macro_rules | `(tactic| walk_at "mine call") => `(tactic| ((case k1 => k_asm); (case k2 => k_asm); (case k3 => k_asm); (case k4 => k_asm); (case k5 => k_asm); (case kK => first | exact rfl | assumption); (case kd => ktr_room); (case ku => ktr_units); intro t9 h9 tk9 F9 N9; (try dsimp only); (try k_fold)))
local macro_rules | `(tactic| walk_at "pyIter ref") => `(tactic| k_dflt (k_extra "my for"))
local macro_rules | `(tactic| walk_at "InvEndN") => `(tactic| k_dflt (k_extra "fend"))
local macro_rules | `(tactic| walk_at "mine for same") => `(tactic| (intro z h1 h2 h3; (try simp only [List.forall_mem_cons, List.not_mem_nil, false_implies, implies_true, and_true, ne_eq] at h2); (try simp only [List.contains_cons, List.contains_nil, Bool.or_false, Bool.or_eq_false_iff, beq_eq_false_iff_ne, ne_eq] at h3); (first | simp only [kstB, h1, h2, h3, if_false, List.contains_cons, List.contains_nil, Bool.or_false, beq_iff_eq, Bool.or_eq_true, or_self, false_or, Bool.false_eq_true, decide_false, Bool.or_self] | simp only [kstB, h1, h2, if_false, List.contains_cons, List.contains_nil, Bool.or_false, beq_iff_eq, Bool.or_eq_true, or_self, false_or, Bool.false_eq_true, decide_false, Bool.or_self] | simp only [kstB, h1, h3, if_false, List.contains_cons, List.contains_nil, Bool.or_false, beq_iff_eq, Bool.or_eq_true, or_self, false_or, Bool.false_eq_true, decide_false, Bool.or_self] | simp only [kstB, h1, if_false, List.contains_cons, List.contains_nil, Bool.or_false, beq_iff_eq, Bool.or_eq_true, or_self, false_or, Bool.false_eq_true, decide_false, Bool.or_self])))
local macro_rules | `(tactic| walk_at "mine enterN") => `(tactic| (refine' code_def ?k1 ?k2 ?k3 ?k4 ?k5 ?kA ?kF ?kK ?k6 ?k7 ?k8 ?k9 ?kB ?_ ?c2 ?c3 ?c4 ?c5; (case kA => exact rfl); (case kF => exact rfl); (case kK => first | exact rfl | assumption); (case k1 => k_asm); (case k2 => k_asm); (case k3 => k_asm); (case k4 => k_asm); (case k5 => k_asm); (case k6 => k_is); (case k7 => k_is); (case k8 => ktr_room); (case k9 => exact BindsTo.of_eq rfl); (case c5 => decide); (case kB => exact locs rfl); (case c2 => exact rfl); (case c3 => exact rfl); (case c4 => exact rfl); k_whole; intro g' L' h' FG' F' N' B' X' T'; (try dsimp only); (try k_lift B'); (try k_fold)))
local macro_rules | `(tactic| walk_at "call ref") => `(tactic| (k_here; (with_reducible show wpAny _ _ (call (Value.ref 100) _) _ _ _); (refine wpAny_call ?_); k_dflt (walk_at "mine enterN")))
set_option maxHeartbeats 4000000 in
theorem line_spec {prog : Program} {w : World} {p : Program} {loose : List Str} {mean : ExcName → Option Value} {mg mb : Str → Option Value}
    (nu : Int) (tn : Tok) (st : Int) (ts : Tok) (mo : Int) (tm : Tok) (h0 : 0 ≤ st) (h1 : st ≤ 100) (h2 : 0 ≤ mo) (h3 : mo ≤ 7)
    (dp un : Nat) (gd : Option (List Code)) (cn : Str) (cs : Scope) (a : Addr) (ccd : Value) (cl : List (Str × Addr)) (outer : List Env) (A₀ : Around) (base h₀ : Heap) (L : Addr) (m : Str → Option Value) (s : Shared) (Q E : Value → Shared → Prop)
    (B : Below A₀ base outer h₀) (F : Fr h₀ L s.heap m) (X : (hd.heap_39 w.params).In h₀) (T : Top p loose mean mg mb h₀) (hk : cs.kind = .function) (hd : dp + 2 < recursionLimit) (hu : un + 16 < cLine)
    (hret : LRet h₀ L s Q st) : wpAny (model prog w) (ktrTop dp un gd cn cs L a ccd cl outer) (call (.ref 114) [.int nu tn, .int st ts, .int mo tm]) Q E s := by
  refine wpAny_call ?_
  (k_with_none)
  w_top off
  k_dflt (walk_at "mine enter")
  (k_with_none)
  (k_with "fit" => (first | rw [sp_is] | rw [tb_is]); exact lead_fit (by assumption) (by assumption) (by assumption))
  (k_with "kend" => (
    (with_reducible rename News _ _ _ _ => nE');
    (refine' ksw_end (σ := Int × Nat) ⟨_, _⟩ ?kF nE' ?kI ?kf ?kk ?ks ?kp ?km);
    (case kF => assumption);
    (case kI => (intro p hp; exact hp));
    (case kf => trivial);
    (case kk => kst_all);
    (case ks => walk_at "mine same");
    (case kp => (try dsimp only); exact in_step (by assumption) (by assumption) (by assumption) (by assumption));
    (case km => (try dsimp only); exact in_meas (by assumption) (by assumption) (by assumption) (by assumption))))
  (k_with "my while" => (
    (with_reducible rename Fr _ _ _ _ => lF');
    (with_reducible rename News _ _ _ _ => lN');
    (refine' ksw_while (fun c : Int × Nat => _) (fun c => [(Str.ofString "column", Value.int c.1 c.2)]) (fun c => True) [] (fun c => col + 1 ≤ c.1 ∧ c.1 ≤ col + (4 - col.fmod 4)) (fun c => (col + 4 - c.1).toNat) (_, _) lF' ?kn ?kf ?kk ?kp ?_ ?hE);
    (case hE => first | passes_own | with_unfolding_all passes_own);
    (case kn => exact lN');
    (case kf => trivial);
    (case kk => kst_all);
    (case kp => exact in_start);
    (clear lF' lN');
    (rintro ⟨c2, tc2⟩ kU kH kTk kFacts ⟨q1, q2⟩ kFr kNews);
    (dsimp only at *);
    (try k_fold)))
  (k_with "fend" => (
    (with_reducible rename News _ _ _ _ => nE');
    (refine' kst_end (σ := Str × Nat × Int × Nat × Int × Nat) ⟨_, _, _, _, _, _⟩ ?kF nE' ?kI ?ko ?ka ?kf ?kk ?ks ?kp);
    (case kF => assumption);
    (case kI => (intro p hp; nomatch hp));
    (case ko => (intro p hp; first | exact hp | simpa using hp));
    (case ka => rfl);
    (case kf => trivial);
    (case kk => kst_all);
    (case ks => walk_at "mine for same");
    (case kp => (try dsimp only); first | exact LeadInv.sp (by assumption) (by assumption) (by assumption) | exact LeadInv.tb (by assumption) (by assumption) (by assumption) (by assumption) (by assumption) (by assumption))))
  (k_with "my for" => (
    (with_reducible rename Fr _ _ _ _ => lF');
    (with_reducible rename News _ _ _ _ => lN');
    (with_reducible rename IsRange _ _ _ _ _ _ _ _ => rgX);
    (refine' kst_range (fun c : Str × Nat × Int × Nat × Int × Nat => []) (fun c => [(Str.ofString "lead", Value.str c.1 c.2.1), (Str.ofString "column", Value.int c.2.2.1 c.2.2.2.1), (Str.ofString "number", Value.int c.2.2.2.2.1 c.2.2.2.2.2)]) (fun c => True) [] (fun pre c => c.1.length ≤ pre.length ∧ 0 ≤ c.2.2.1 ∧ LeadInv st c.1 c.2.2.1) (_, _, _, _, _, _) (by rfl) (by first | exact rgX | assumption) (small_one (by omega) (by omega) (by omega) (by omega)) (rangeSize_nat _ _) lF' ?kn ?kf ?kk ?kp ?_ ?_);
    (case kn => exact lN');
    (case kf => trivial);
    (case kk => kst_all);
    (case kp => exact LeadInv.start h0);
    (all_goals (clear lF' lN' rgX));
    (all_goals first | rintro ⟨lead, tl, col, tc, nu2, tn2⟩ pre k t kU kH kTk own hk1 hk2 kOff kFacts ⟨p1, p2, kInv⟩ kFr kNews | rintro ⟨lead, tl, col, tc, nu2, tn2⟩ kU kH kTk kFacts ⟨p1, p2, kInv⟩ kFr kNews);
    (all_goals dsimp only at *);
    (all_goals (try k_fold))))
  have hfm := fm_bound nu h2 h3
  obtain ⟨hf1, hf2⟩ := hfm
  k_steps
  all_goals (refine line_ret (by subst_vars; exact hret) (by assumption) (by assumption) (by assumption) ?_ (by subst_vars; assumption) (by assumption); first | exact .head _ | exact .tail _ (.head _) | exact .tail _ (.tail _ (.head _)) | exact .tail _ (.tail _ (.tail _ (.head _))) | exact .tail _ (.tail _ (.tail _ (.tail _ (.head _)))))
end Mine
namespace Mine
section
variable {prog : Program} {w : World} {A : Around} {E : Value → Shared → Prop} {s : Shared} {env : Env} {h₀ : Heap} {x : Str} {body : List Stmt} {Q : Flow → Shared → Prop}
theorem for_strs {σ : Type} {l : Addr} {vs : List Value} {ys : List Str} {m₀ : Str → Option Value} (Led : σ → List (Addr × Obj)) (ps : σ → List (Str × Value)) (Facts : σ → Prop) (stored : List Str) (P : Nat → σ → Prop) (c₀ : σ)
    (hh : A.handled = none) (hl : s.heap.IsList l vs.toArray) (hi : StrsAre vs ys) (hL : env.locals ≠ l) (hfree : ∀ p ∈ Led c₀, p.1 ≠ l) (F : Fr h₀ env.locals s.heap m₀) (N : News h₀ env.locals s.heap (Led c₀)) (hf : Facts c₀) (hk : ∀ p ∈ ps c₀, m₀ p.1 = some p.2) (hp : P 0 c₀)
    (turn : ∀ (c : σ) (i : Nat) (y : Str) (t : Tok) (u : Str → Option Value) h tk own, ys[i]? = some y → OwnOff own ((Led c₀).map (·.1)) → Facts c → P i c →
      Fr h₀ env.locals h (fun z => if z = x then some (.str y t) else kstB (fun z => if stored.contains z then u z else m₀ z) (ps c) z) → News h₀ env.locals h (Led c ++ own) →
      wpAny (model prog w) A (execs body env) (InvPostN h₀ env.locals (KstS Led ps Facts x stored m₀ (fun pre c => P pre.length c) (rangeKs 0 (i + 1))) own ((Led c₀).map (·.1)) { s with heap := h, toks := tk } Q) E { s with heap := h, toks := tk })
    (done : ∀ (c : σ) (u : Str → Option Value) h tk, Facts c → P ys.length c → Fr h₀ env.locals h (fun z => if z = x then u z else kstB (fun z => if stored.contains z then u z else m₀ z) (ps c) z) → News h₀ env.locals h (Led c) → Q .next { s with heap := h, toks := tk }) :
    wpAny (model prog w) A (pyIter (.ref l)) (fun it s₂ => LoopAtV prog w A h₀ env x body Q E it s₂) E s := by
  obtain ⟨ol, hol, hc1⟩ := id hl
  have hlt : l < s.heap.objs.size := Heap.lt_size hol
  have W := Walks.list (prog := prog) (w := w) hh s.heap.objs.size l (Nat.ne_of_lt hlt) vs.toArray
  have hlen : vs.toArray.size = ys.length := by simp [hi.length]
  rw [hlen] at W
  refine wpAny_pyIter_list hl ?_
  refine loop_invN (fun i m nx => KstS Led ps Facts x stored m₀ (fun pre c => P pre.length c) (rangeKs 0 i) m nx) W ?_ ?_ ?_ ?_ ⟨⟨_, Heap.get?_push_size _ rfl, rfl, rfl⟩, hl.at fun o e => Heap.get?_push_of_some _ e⟩ (F.push _)
    (fun p hp => ⟨Heap.get?_push_of_some _ (N p hp).1, (N p hp).2⟩) ⟨c₀, rfl, hf, hk, fun _ _ _ _ => rfl, by simpa [rangeKs] using hp⟩ ?_ ?_
  · intro hm
    rcases List.mem_cons.mp hm with e | hm
    · exact absurd F.ns.lt (e ▸ Nat.lt_irrefl _)
    · exact hL (List.mem_singleton.mp hm)
  · intro b hb
    rw [List.mem_singleton.mp hb]
    exact next_is_new F
  · intro p hp hI
    exact absurd (Heap.lt_size (N p hp).1) ((List.mem_singleton.mp hI) ▸ Nat.lt_irrefl _)
  · intro p hp hI
    rcases List.mem_cons.mp hI with e | hI
    · exact absurd (Heap.lt_size (N p hp).1) (e ▸ Nat.lt_irrefl _)
    · exact hfree p hp (List.mem_singleton.mp hI)
  · rintro i v m₁ nx h tk own hin hP _ hoff ⟨c, rfl, hf', h1, h2, hp'⟩ F₁ N₁
    rw [rangeKs_length] at hp'
    have hin' : i < ys.length := hin
    have hy : ys[i]? = some ys[i] := List.getElem?_eq_getElem hin'
    obtain ⟨t, hx⟩ := hi.get i ys[i] hy
    have hv : v = .str ys[i] t := by
      have hP' : vs[i]? = some v := by simpa using hP
      rw [hx] at hP'
      exact (Option.some.inj hP').symm
    subst hv
    exact turn c i ys[i] t m₁ h tk own hy hoff hf' hp' (kst_fr h1 h2 F₁) N₁
  · rintro m₁ nx h tk ⟨c, rfl, hf', h1, h2, hp'⟩ F₁ N₁
    rw [rangeKs_length] at hp'
    exact done c m₁ h tk hf' hp' (kst_frOut h1 h2 F₁) N₁
end
theorem news_tl {h₀ h : Heap} {L : Addr} {q : Addr × Obj} {r : List (Addr × Obj)} (N : News h₀ L h (q :: r)) : News h₀ L h r := fun p hp => N p (List.mem_cons_of_mem _ hp)
theorem off_one {a l : Addr} {o : Obj} (h : a < l) : ∀ p ∈ [(a, o)], p.1 ≠ l := fun p hp => by rw [List.mem_singleton.mp hp]; exact Nat.ne_of_lt h
def cleanL (cols : Int) (l : List Nat) : List Nat := if hasC cols l 0 = true then stripC cols l else expand l 0
def cleanF (cols : Int) (y : Str) : Str := Str.mk (cleanL cols y.cps.toList).toArray
structure CleanInv (cols : Int) (x : Str) (i : Nat) (ws : List Str) : Prop where
  eq : ws = ((Txt.split x (Str.ofString "\n")).take i).map (cleanF cols)
theorem split_sum (x : Str) : ((Txt.split x (Str.ofString "\n")).map (·.length)).sum + (Txt.split x (Str.ofString "\n")).length ≤ x.length + 1 := by
  rw [nl_is]
  exact split_weight x (Str.mk #[10]) (Nat.le_refl 1)
theorem le_sum {l : List Nat} {n : Nat} (h : n ∈ l) : n ≤ l.sum := by
  induction l with
  | nil => cases h
  | cons a r ih =>
    rw [List.sum_cons]
    rcases List.mem_cons.mp h with rfl | h
    · omega
    · have := ih h; omega
theorem line_len {x y : Str} {i : Nat} (h : (Txt.split x (Str.ofString "\n"))[i]? = some y) (hx : x.length ≤ 1000) : y.length ≤ 1000 := by
  have h1 := split_sum x
  have h2 : y.length ≤ ((Txt.split x (Str.ofString "\n")).map (·.length)).sum := le_sum (List.mem_map_of_mem (List.mem_of_getElem? h))
  have h3 : 1 ≤ (Txt.split x (Str.ofString "\n")).length := by
    cases hq : Txt.split x (Str.ofString "\n") with
    | nil => rw [hq] at h; simp at h
    | cons a r => simp
  omega
theorem line_at {x y : Str} {i : Nat} (h : (Txt.split x (Str.ofString "\n"))[i]? = some y) (hx : x.length ≤ 1000) : i ≤ 1000 := by
  have h1 := split_sum x
  have h2 := (List.getElem?_eq_some_iff.mp h).1
  omega
theorem CleanInv.start {cols : Int} {x : Str} : 0 ≤ ([] : List Str).length ∧ ([] : List Str).length ≤ 0 ∧ CleanInv cols x 0 [] := ⟨Nat.le_refl _, Nat.le_refl _, ⟨rfl⟩⟩
theorem CleanInv.step {cols : Int} {x y z : Str} {i : Nat} {ts : List Str} (h : CleanInv cols x i ts) (p1 : i ≤ ts.length) (p2 : ts.length ≤ i) (hy : (Txt.split x (Str.ofString "\n"))[i]? = some y) (hz : z = cleanF cols y) :
    (rangeKs 0 (i + 1)).length ≤ (ts ++ [z]).length ∧ (ts ++ [z]).length ≤ (rangeKs 0 (i + 1)).length ∧ CleanInv cols x (rangeKs 0 (i + 1)).length (ts ++ [z]) := by
  rw [rangeKs_length, List.length_append, List.length_singleton]
  refine ⟨by omega, by omega, ⟨?_⟩⟩
  rw [List.take_add_one, hy, List.map_append, ← h.eq, hz]
  rfl
theorem CleanInv.yes {cols : Int} {x y : Str} {i : Nat} {ts : List Str} (h : CleanInv cols x i ts) (p1 : i ≤ ts.length) (p2 : ts.length ≤ i) (hy : (Txt.split x (Str.ofString "\n"))[i]? = some y) (hc : hasC cols y.cps.toList 0 = true) :
    (rangeKs 0 (i + 1)).length ≤ (ts ++ [Str.mk (stripC cols y.cps.toList).toArray]).length ∧ (ts ++ [Str.mk (stripC cols y.cps.toList).toArray]).length ≤ (rangeKs 0 (i + 1)).length ∧ CleanInv cols x (rangeKs 0 (i + 1)).length (ts ++ [Str.mk (stripC cols y.cps.toList).toArray]) :=
  h.step p1 p2 hy (by unfold cleanF cleanL; rw [if_pos hc])
theorem CleanInv.no {cols : Int} {x y : Str} {i : Nat} {ts : List Str} (h : CleanInv cols x i ts) (p1 : i ≤ ts.length) (p2 : ts.length ≤ i) (hy : (Txt.split x (Str.ofString "\n"))[i]? = some y) (hc : hasC cols y.cps.toList 0 = false) :
    (rangeKs 0 (i + 1)).length ≤ (ts ++ [Str.mk (expand y.cps.toList 0).toArray]).length ∧ (ts ++ [Str.mk (expand y.cps.toList 0).toArray]).length ≤ (rangeKs 0 (i + 1)).length ∧ CleanInv cols x (rangeKs 0 (i + 1)).length (ts ++ [Str.mk (expand y.cps.toList 0).toArray]) :=
  h.step p1 p2 hy (by unfold cleanF cleanL; rw [if_neg (by rw [hc]; exact Bool.false_ne_true)])
theorem stripL_len (cols : Int) : ∀ (l : List Nat) (w : Nat), (stripL cols l w).2 + 4 * (stripL cols l w).1.length ≤ w + 4 * l.length
  | [], w => by simp [stripL]
  | c :: r, w => by
    unfold stripL
    split
    · split
      · have := stripL_len cols r (w + 1); simp only [List.length_cons]; omega
      · split
        · have := stripL_len cols r (w + (4 - w % 4)); simp only [List.length_cons]; omega
        · exact Nat.le_refl _
    · exact Nat.le_refl _
theorem cleanL_len {cols : Int} (h0 : 0 ≤ cols) (l : List Nat) : (cleanL cols l).length ≤ 4 * l.length := by
  unfold cleanL
  split
  · unfold stripC
    split
    · exact Nat.zero_le _
    · have h1 := stripL_len cols l 0
      have h2 := expand_len (stripL cols l 0).1 (stripL cols l 0).2
      rw [List.length_append, List.length_replicate]
      omega
  · exact expand_len l 0
theorem sum_clean {cols : Int} (h0 : 0 ≤ cols) : ∀ ys : List Str, ((ys.map (cleanF cols)).map (·.length)).sum ≤ 4 * (ys.map (·.length)).sum
  | [] => Nat.le_refl _
  | y :: r => by
    have h1 := sum_clean h0 r
    have h2 := cleanL_len h0 y.cps.toList
    have h3 : (cleanF cols y).length = (cleanL cols y.cps.toList).length := rfl
    rw [List.map_cons, List.map_cons, List.sum_cons, List.map_cons, List.sum_cons, h3, len_is y]
    omega
theorem CleanInv.over {cols : Int} {x : Str} {n : Nat} {ts : List Str} (h : CleanInv cols x n ts) (hn : n = (Txt.split x (Str.ofString "\n")).length) : ts = (Txt.split x (Str.ofString "\n")).map (cleanF cols) := by
  rw [h.eq, hn, List.take_length]
theorem CleanInv.join {cols : Int} {x : Str} {l' : List (Str × Tok)} {ts : List Str} (h : CleanInv cols x (l'.map (·.1)).length ts) (e : l'.map (·.1) = Txt.split x (Str.ofString "\n")) (h0 : 0 ≤ cols) (hx : x.length ≤ 1000) : (ts.map (·.length)).sum + ts.length * (Str.ofString "\n").length ≤ 16777216 := by
  rw [h.over (by rw [e])]
  have h1 := sum_clean h0 (Txt.split x (Str.ofString "\n"))
  have h2 := split_sum x
  have h3 : (Str.ofString "\n").length = 1 := by decide +kernel
  rw [h3, List.length_map]
  omega
theorem off_own {own : List (Addr × Obj)} {l : Addr} {o : Obj} (h : OwnOff own (List.map (fun x => x.fst) [(l, o)])) : ∀ p ∈ own, p.1 ≠ l := OwnOff.ne h (List.mem_cons_self ..)
theorem app_fit {ws : List Value} {ts : List Str} {i : Nat} {x y : Str} (h : ws.length = ts.length) (p2 : ts.length ≤ i) (hy : (Txt.split x (Str.ofString "\n"))[i]? = some y) (hx : x.length ≤ 1000) : ws.toArray.size ≤ sizeLine := by
  have := line_at hy hx
  rw [List.size_toArray, sizeLine_eq]; omega
local macro_rules | `(tactic| walk_at "mine enter") => `(tactic| (refine' code_pure ?k1 ?k2 ?k3 ?k5 ?kA ?kF ?kK ?k6 ?k7 ?k8 ?k9 ?kB ?_ ?c2 ?c3 ?c4 ?c5; (case kA => exact rfl); (case kF => exact rfl); (case kK => assumption); (case k1 => k_asm); (case k2 => k_asm); (case k3 => k_asm); (case k5 => k_asm); (case k6 => k_is); (case k7 => k_is); (case k8 => ktr_room); (case k9 => first | exact BindsTo.of_eq rfl | exact binds_K (by k_in) rfl (by k_is) rfl rfl rfl | fail "enter: no rule for these arguments"); (case c5 => decide); (case kB => exact locs rfl); (case c2 => exact rfl); (case c3 => exact rfl); (case c4 => exact rfl); k_whole; intro g' L' h' hg' FG' F' N' B' X' T'; (try dsimp only); (try k_lift B'); (try k_fold)))
local macro_rules | `(tactic| walk_at "mine same") => `(tactic| (intro z h2 h3; (simp only [List.forall_mem_cons, List.not_mem_nil, false_implies, implies_true, and_true, ne_eq] at h2); (try simp only [List.contains_cons, List.contains_nil, Bool.or_false, Bool.or_eq_false_iff, beq_eq_false_iff_ne, ne_eq] at h3); (first | simp only [kstB, h2, h3, if_false, List.contains_cons, List.contains_nil, Bool.or_false, beq_iff_eq, Bool.or_eq_true, or_self, false_or, Bool.false_eq_true, decide_false, Bool.or_self] | simp only [kstB, h2, if_false, List.contains_cons, List.contains_nil, Bool.or_false, beq_iff_eq, Bool.or_eq_true, or_self, false_or, Bool.false_eq_true, decide_false, Bool.or_self])))
local macro_rules | `(tactic| walk_at "KswEnd") => `(tactic| k_dflt (k_extra "kend"))
local macro_rules | `(tactic| walk_at "call builtin:str.join") => `(tactic| (k_here; (with_reducible show wpAny _ _ (call (Value.builtin "str.join") [Value.str _ _, Value.ref _]) _ _ _); k_dflt (refine' join_list ?l ?i ?o ?_; (case l => exact News.isList (by k_asm) (by k_mem)); (case i => assumption); (case o => k_extra "join")); intro _ _))
local macro_rules | `(tactic| walk_at "binaryOp Add str str") => `(tactic| (k_here; (with_reducible show wpAny _ _ (binaryOp Operator.Add (Value.str _ _) (Value.str _ _)) _ _ _); (refine SBL.add (hsz := ?hsz) ?_); (case hsz => k_extra "fit"); intro _ _ _))
local macro_rules | `(tactic| walk_at "exec While BoolOp cons nil") => `(tactic| k_dflt (k_extra "my while"))
local macro_rules | `(tactic| walk_at "exec While Compare cons nil") => `(tactic| k_dflt (k_extra "my while"))
local macro_rules | `(tactic| walk_at "mine call") => `(tactic| ((case k1 => k_asm); (case k2 => k_asm); (case k3 => k_asm); (case k4 => k_asm); (case k5 => k_asm); (case kK => first | exact rfl | assumption); (case kd => ktr_room); (case ku => ktr_units); intro t9 h9 tk9 F9 N9; (try dsimp only); (try k_fold)))
local macro_rules | `(tactic| walk_at "pyIter ref") => `(tactic| k_dflt (k_extra "my for"))
local macro_rules | `(tactic| walk_at "InvEndN") => `(tactic| k_dflt (k_extra "fend"))
local macro_rules | `(tactic| walk_at "mine for same") => `(tactic| (intro z h1 h2 h3; (try simp only [List.forall_mem_cons, List.not_mem_nil, false_implies, implies_true, and_true, ne_eq] at h2); (try simp only [List.contains_cons, List.contains_nil, Bool.or_false, Bool.or_eq_false_iff, beq_eq_false_iff_ne, ne_eq] at h3); (first | simp only [kstB, h1, h2, h3, if_false, List.contains_cons, List.contains_nil, Bool.or_false, beq_iff_eq, Bool.or_eq_true, or_self, false_or, Bool.false_eq_true, decide_false, Bool.or_self] | simp only [kstB, h1, h2, if_false, List.contains_cons, List.contains_nil, Bool.or_false, beq_iff_eq, Bool.or_eq_true, or_self, false_or, Bool.false_eq_true, decide_false, Bool.or_self] | simp only [kstB, h1, h3, if_false, List.contains_cons, List.contains_nil, Bool.or_false, beq_iff_eq, Bool.or_eq_true, or_self, false_or, Bool.false_eq_true, decide_false, Bool.or_self] | simp only [kstB, h1, if_false, List.contains_cons, List.contains_nil, Bool.or_false, beq_iff_eq, Bool.or_eq_true, or_self, false_or, Bool.false_eq_true, decide_false, Bool.or_self])))
local macro_rules | `(tactic| walk_at "mine enterN") => `(tactic| (refine' code_def ?k1 ?k2 ?k3 ?k4 ?k5 ?kA ?kF ?kK ?k6 ?k7 ?k8 ?k9 ?kB ?_ ?c2 ?c3 ?c4 ?c5; (case kA => exact rfl); (case kF => exact rfl); (case kK => first | exact rfl | assumption); (case k1 => k_asm); (case k2 => k_asm); (case k3 => k_asm); (case k4 => k_asm); (case k5 => k_asm); (case k6 => k_is); (case k7 => k_is); (case k8 => ktr_room); (case k9 => exact BindsTo.of_eq rfl); (case c5 => decide); (case kB => exact locs rfl); (case c2 => exact rfl); (case c3 => exact rfl); (case c4 => exact rfl); k_whole; intro g' L' h' FG' F' N' B' X' T'; (try dsimp only); (try k_lift B'); (try k_fold)))
local macro_rules | `(tactic| walk_at "call ref") => `(tactic| (k_here; (with_reducible show wpAny _ _ (call (Value.ref 71) _) _ _ _); k_dflt (refine' pcall_use (has_spec _ _ _ _) ?k1 ?k2 ?k3 ?k4 ?k5 ?kK ?kd ?ku ?_; walk_at "mine call")))
local macro_rules | `(tactic| walk_at "call ref") => `(tactic| (k_here; (with_reducible show wpAny _ _ (call (Value.ref 78) _) _ _ _); k_dflt (refine' pcall_use (strip_spec _ _ _ _ ?hx ?h0) ?k1 ?k2 ?k3 ?k4 ?k5 ?kK ?kd ?ku ?_; (case hx => k_extra "line len"); (case h0 => assumption); walk_at "mine call")))
local macro_rules | `(tactic| walk_at "call ref") => `(tactic| (k_here; (with_reducible show wpAny _ _ (call (Value.ref 86) [_]) _ _ _); k_dflt (refine' pcall_use (expand_spec0 _ _ ?hx) ?k1 ?k2 ?k3 ?k4 ?k5 ?kK ?kd ?ku ?_; (case hx => k_extra "line len"); walk_at "mine call")))
local macro_rules | `(tactic| walk_at "call builtin:str.split") => `(tactic| (k_here; (with_reducible show wpAny _ _ (call (Value.builtin "str.split") [_, _]) _ _ _); k_dflt (refine' KSpl.split1 ?k1 ?k2 ?k3 ?_ ?k5; (case k1 => k_asm); (case k2 => k_asm); (case k3 => decide +kernel); (case k5 => k_extra "split fit"); intro D' l' h' k' e' a' F' N' l1; (try k_lt l1))))
local macro_rules | `(tactic| walk_at "call builtin:list.append") => `(tactic| (k_here; (with_reducible show wpAny _ _ (call (Value.builtin _) [Value.ref _, _]) _ _ _); k_dflt (refine' append_K ?k1 ?k2 (Upd.head ?k3) ?_ ?z; (case k1 => k_asm); (case k2 => k_asm); (case k3 => exact off_own (by assumption)); (case z => k_extra "append fit")); intro h' F' N'; (try simp only [List.push_toArray] at N')))
set_option maxHeartbeats 4000000 in
theorem clean_spec {prog : Program} {w : World} {p : Program} {loose : List Str} {mean : ExcName → Option Value} {mg mb : Str → Option Value}
    (x : Str) (tx : Tok) (cols : Int) (tc : Tok) (hx : x.length ≤ 1000) (h0 : 0 ≤ cols) : PCall prog w p loose mean mg mb 64 3 [.str x tx, .int cols tc] (fun t => .str (Txt.join (Str.ofString "\n") ((Txt.split x (Str.ofString "\n")).map (cleanF cols))) t) := by
  intro dp un gd cn cs a ccd cl outer A₀ base h₀ L m s Q E B F X T hk hd hu hret
  refine wpAny_call ?_
  (k_with_none)
  w_top off
  k_dflt (walk_at "mine enter")
  (k_with_none)
  (k_with "split fit" => (rw [sizeLine_eq]; omega))
  (k_with "append fit" => exact app_fit (StrsAre.length (by assumption)) (by assumption) (by assumption) (by assumption))
  (k_with "line len" => exact line_len (by assumption) (by assumption))
  (k_with "join" => exact CleanInv.join (by assumption) (by assumption) (by assumption) (by assumption))
  (k_with "fend" => (
    (with_reducible rename News _ _ _ _ => nE');
    (refine' kst_end (σ := List Value × List Str × Nat) ⟨_, _, _⟩ ?kF nE' ?kI ?ko ?ka ?kf ?kk ?ks ?kp);
    (case kF => assumption);
    (case kI => (intro p hp; (try dsimp only at hp); rw [List.mem_singleton.mp hp]; exact List.mem_cons_self ..));
    (case ko => (intro p hp; first | exact hp | exact List.mem_cons_of_mem _ hp | simpa using hp));
    (case ka => rfl);
    (case kf => (try dsimp only); exact PyProof.Rows.StrsAre.append' (by assumption) (.cons _ _ .nil));
    (case kk => kst_all);
    (case ks => walk_at "mine for same");
    (case kp => (try dsimp only); first | exact CleanInv.yes (by assumption) (by assumption) (by assumption) (by assumption) (by assumption) | exact CleanInv.no (by assumption) (by assumption) (by assumption) (by assumption) (by assumption))))
  (k_with "my for" => (
    (with_reducible rename Fr _ _ _ _ => lF');
    (with_reducible rename News _ _ _ _ => lN');
    (with_reducible rename StrsAre _ _ => lS');
    (have lN2 := news_tl lN');
    (refine' for_strs (fun c : List Value × List Str × Nat => [(_, W.listOf c.1.toArray c.2.2)]) (fun c => []) (fun c => StrsAre c.1 c.2.1) [] (fun i c => i ≤ c.2.1.length ∧ c.2.1.length ≤ i ∧ CleanInv cols x i c.2.1) ([], [], 0) (by rfl) ?kl lS' ?kL ?kfr lF' ?kn ?kf ?kk ?kp ?_ ?_);
    (case kl => exact News.isList lN' (List.mem_cons_self ..));
    (case kn => exact lN2);
    (case kL => exact fun e => (lN' _ (List.mem_cons_self ..)).2.1 e.symm);
    (case kfr => exact off_one (by assumption));
    (case kf => exact StrsAre.nil);
    (case kk => kst_all);
    (case kp => exact CleanInv.start);
    (all_goals (clear lF' lN' lN2));
    (all_goals first | rintro ⟨ws, ts, nn⟩ i y t kU kH kTk own hk1 kOff kFacts ⟨p1, p2, kInv⟩ kFr kNews | rintro ⟨ws, ts, nn⟩ kU kH kTk kFacts ⟨p1, p2, kInv⟩ kFr kNews);
    (with_reducible rename (List.map _ _ = Txt.split _ _) => kE);
    (all_goals (try rw [kE] at hk1));
    (all_goals dsimp only at *);
    (all_goals (try k_fold))))
  k_steps
  all_goals exact p_retS (by subst_vars; exact hret) (by subst_vars; assumption) (congrArg (Txt.join (Str.ofString "\n")) (CleanInv.over kInv (congrArg List.length (by assumption))))
end Mine
namespace Mine
def cleanS (cols : Int) (y : Str) : Str := Txt.join (Str.ofString "\n") ((Txt.split y (Str.ofString "\n")).map (cleanF cols))
theorem cleanS_len {cols : Int} {y : Str} (h0 : 0 ≤ cols) (hy : y.length ≤ 1000) : (cleanS cols y).length ≤ 6000 := by
  unfold cleanS
  show (Builtin.Str.glued _ _).length ≤ _
  rw [PySem.StrLaws.glued_eq_join]
  have h := PySem.StrLaws.join_length_le (Str.ofString "\n") ((Txt.split y (Str.ofString "\n")).map (cleanF cols))
  have h1 := sum_clean h0 (Txt.split y (Str.ofString "\n"))
  have h2 := split_sum y
  have h3 : (Str.ofString "\n").length = 1 := by decide +kernel
  rw [h3, List.length_map] at h
  omega
theorem build_fit {cols : Int} {x y : Str} (h0 : 0 ≤ cols) (hx : x.length ≤ 1000) (hy : y.length ≤ 1000) : x.length + (cleanS cols y).length ≤ sizeLine := by
  have := cleanS_len h0 hy
  rw [sizeLine_eq]; omega
theorem build_short {cols : Int} {x y : Str} (h0 : 0 ≤ cols) (hx : x.length ≤ 1000) (hy : y.length ≤ 1000) : (x ++ cleanS cols y).length ≤ 100000 := by
  have := cleanS_len h0 hy
  rw [len_is, toL_append, List.length_append, ← len_is, ← len_is]; omega
theorem clean_spec' {prog : Program} {w : World} {p : Program} {loose : List Str} {mean : ExcName → Option Value} {mg mb : Str → Option Value}
    (x : Str) (tx : Tok) (cols : Int) (tc : Tok) (hx : x.length ≤ 1000) (h0 : 0 ≤ cols) : PCall prog w p loose mean mg mb 64 3 [.str x tx, .int cols tc] (fun t => .str (cleanS cols x) t) := clean_spec x tx cols tc hx h0
local macro_rules | `(tactic| walk_at "mine enter") => `(tactic| (refine' code_pure ?k1 ?k2 ?k3 ?k5 ?kA ?kF ?kK ?k6 ?k7 ?k8 ?k9 ?kB ?_ ?c2 ?c3 ?c4 ?c5; (case kA => exact rfl); (case kF => exact rfl); (case kK => assumption); (case k1 => k_asm); (case k2 => k_asm); (case k3 => k_asm); (case k5 => k_asm); (case k6 => k_is); (case k7 => k_is); (case k8 => ktr_room); (case k9 => first | exact BindsTo.of_eq rfl | exact binds_K (by k_in) rfl (by k_is) rfl rfl rfl | fail "enter: no rule for these arguments"); (case c5 => decide); (case kB => exact locs rfl); (case c2 => exact rfl); (case c3 => exact rfl); (case c4 => exact rfl); k_whole; intro g' L' h' hg' FG' F' N' B' X' T'; (try dsimp only); (try k_lift B'); (try k_fold)))
local macro_rules | `(tactic| walk_at "mine same") => `(tactic| (intro z h2 h3; (simp only [List.forall_mem_cons, List.not_mem_nil, false_implies, implies_true, and_true, ne_eq] at h2); (try simp only [List.contains_cons, List.contains_nil, Bool.or_false, Bool.or_eq_false_iff, beq_eq_false_iff_ne, ne_eq] at h3); (first | simp only [kstB, h2, h3, if_false, List.contains_cons, List.contains_nil, Bool.or_false, beq_iff_eq, Bool.or_eq_true, or_self, false_or, Bool.false_eq_true, decide_false, Bool.or_self] | simp only [kstB, h2, if_false, List.contains_cons, List.contains_nil, Bool.or_false, beq_iff_eq, Bool.or_eq_true, or_self, false_or, Bool.false_eq_true, decide_false, Bool.or_self])))
local macro_rules | `(tactic| walk_at "KswEnd") => `(tactic| k_dflt (k_extra "kend"))
local macro_rules | `(tactic| walk_at "call builtin:str.join") => `(tactic| (k_here; (with_reducible show wpAny _ _ (call (Value.builtin "str.join") [Value.str _ _, Value.ref _]) _ _ _); k_dflt (refine' join_list ?l ?i ?o ?_; (case l => exact News.isList (by k_asm) (by k_mem)); (case i => assumption); (case o => k_extra "join")); intro _ _))
local macro_rules | `(tactic| walk_at "binaryOp Add str str") => `(tactic| (k_here; (with_reducible show wpAny _ _ (binaryOp Operator.Add (Value.str _ _) (Value.str _ _)) _ _ _); (refine SBL.add (hsz := ?hsz) ?_); (case hsz => k_extra "fit"); intro _ _ _))
local macro_rules | `(tactic| walk_at "exec While BoolOp cons nil") => `(tactic| k_dflt (k_extra "my while"))
local macro_rules | `(tactic| walk_at "exec While Compare cons nil") => `(tactic| k_dflt (k_extra "my while"))
local macro_rules | `(tactic| walk_at "mine call") => `(tactic| ((case k1 => k_asm); (case k2 => k_asm); (case k3 => k_asm); (case k4 => k_asm); (case k5 => k_asm); (case kK => first | exact rfl | assumption); (case kd => ktr_room); (case ku => ktr_units); intro t9 h9 tk9 F9 N9; (try dsimp only); (try k_fold)))
local macro_rules | `(tactic| walk_at "pyIter ref") => `(tactic| k_dflt (k_extra "my for"))
local macro_rules | `(tactic| walk_at "InvEndN") => `(tactic| k_dflt (k_extra "fend"))
local macro_rules | `(tactic| walk_at "mine for same") => `(tactic| (intro z h1 h2 h3; (try simp only [List.forall_mem_cons, List.not_mem_nil, false_implies, implies_true, and_true, ne_eq] at h2); (try simp only [List.contains_cons, List.contains_nil, Bool.or_false, Bool.or_eq_false_iff, beq_eq_false_iff_ne, ne_eq] at h3); (first | simp only [kstB, h1, h2, h3, if_false, List.contains_cons, List.contains_nil, Bool.or_false, beq_iff_eq, Bool.or_eq_true, or_self, false_or, Bool.false_eq_true, decide_false, Bool.or_self] | simp only [kstB, h1, h2, if_false, List.contains_cons, List.contains_nil, Bool.or_false, beq_iff_eq, Bool.or_eq_true, or_self, false_or, Bool.false_eq_true, decide_false, Bool.or_self] | simp only [kstB, h1, h3, if_false, List.contains_cons, List.contains_nil, Bool.or_false, beq_iff_eq, Bool.or_eq_true, or_self, false_or, Bool.false_eq_true, decide_false, Bool.or_self] | simp only [kstB, h1, if_false, List.contains_cons, List.contains_nil, Bool.or_false, beq_iff_eq, Bool.or_eq_true, or_self, false_or, Bool.false_eq_true, decide_false, Bool.or_self])))
local macro_rules | `(tactic| walk_at "mine enterN") => `(tactic| (refine' code_def ?k1 ?k2 ?k3 ?k4 ?k5 ?kA ?kF ?kK ?k6 ?k7 ?k8 ?k9 ?kB ?_ ?c2 ?c3 ?c4 ?c5; (case kA => exact rfl); (case kF => exact rfl); (case kK => first | exact rfl | assumption); (case k1 => k_asm); (case k2 => k_asm); (case k3 => k_asm); (case k4 => k_asm); (case k5 => k_asm); (case k6 => k_is); (case k7 => k_is); (case k8 => ktr_room); (case k9 => exact BindsTo.of_eq rfl); (case c5 => decide); (case kB => exact locs rfl); (case c2 => exact rfl); (case c3 => exact rfl); (case c4 => exact rfl); k_whole; intro g' L' h' FG' F' N' B' X' T'; (try dsimp only); (try k_lift B'); (try k_fold)))
local macro_rules | `(tactic| walk_at "inplaceOp Add str str") => `(tactic| (k_here; (with_reducible show wpAny _ _ (inplaceOp Operator.Add (Value.str _ _) (Value.str _ _)) _ _ _); (refine SBL.iadd (hsz := ?hsz) ?_); (case hsz => k_extra "fit"); intro _ _ _))
local macro_rules | `(tactic| walk_at "call ref") => `(tactic| (k_here; (with_reducible show wpAny _ _ (call (Value.ref 64) _) _ _ _); k_dflt (refine' pcall_use (clean_spec' _ _ _ _ ?hx ?h0) ?k1 ?k2 ?k3 ?k4 ?k5 ?kK ?kd ?ku ?_; (case hx => assumption); (case h0 => assumption); walk_at "mine call")))
local macro_rules | `(tactic| walk_at "call ref") => `(tactic| (k_here; (with_reducible show wpAny _ _ (call (Value.ref 38) _) _ _ _); k_dflt (refine' pcall_use (end_spec _ _ ?hx) ?k1 ?k2 ?k3 ?k4 ?k5 ?kK ?kd ?ku ?_; (case hx => exact build_short (by assumption) (by assumption) (by assumption)); walk_at "mine call")))
set_option maxHeartbeats 4000000 in
theorem build_spec {prog : Program} {w : World} {p : Program} {loose : List Str} {mean : ExcName → Option Value} {mg mb : Str → Option Value}
    (x : Str) (tx : Tok) (y : Str) (ty : Tok) (cols : Int) (tc : Tok) (hx : x.length ≤ 1000) (hy : y.length ≤ 1000) (h0 : 0 ≤ cols) : PCall prog w p loose mean mg mb 50 4 [.str x tx, .str y ty, .int cols tc] (fun t => .str ⟨(endS Unicode.isSpace (x ++ cleanS cols y).cps.toList).toArray⟩ t) := by
  intro dp un gd cn cs a ccd cl outer A₀ base h₀ L m s Q E B F X T hk hd hu hret
  refine wpAny_call ?_
  (k_with_none)
  w_top off
  k_dflt (walk_at "mine enter")
  (k_with_none)
  (k_with "fit" => (exact build_fit (by assumption) (by assumption) (by assumption)))
  k_steps
  all_goals first 
    | exact p_retS (by subst_vars; exact hret) (by subst_vars; assumption) rfl
end Mine
namespace Mine
theorem plainAttrs_pat : PlainAttrs "re.Pattern" :=
  ⟨⟨"object.__getattribute__", by rw [typeLookup_type, builtinLookup_eq_fast]; kernel_rfl, by decide +kernel⟩, by rw [typeLookup_type, builtinLookup_eq_fast]; kernel_rfl⟩
theorem slot_pat_match : Slot "re.Pattern" "match" "re.Pattern.match" :=
  .of (owner := "re.Pattern") (n := "match") (by rw [typeLookup_type, builtinLookup_eq_fast]; kernel_rfl) (by decide +kernel) (by decide +kernel) (by decide +kernel)
    (by first | exact .inl (by decide +kernel) | exact .inr (by decide +kernel)) (by rw [isSubtype_type]; kernel_rfl)
theorem type_pat_match : typeOf (.builtin "re.Pattern.match") = pure (.type "method_descriptor") := by show builtinType _ = _; rw [builtinType_eq_fast]; kernel_rfl
theorem entry_pat_match : entryFor table "re.Pattern.match" = some Builtin.«re.Pattern.match» := entryFor_of_fast (by kernel_rfl)
theorem args_pat_match (a b : Value) : argsOk "re.Pattern.match" ⟨[a, b], []⟩ := by
  unfold argsOk; kernel_rfl
theorem match_no_bool : typeLookup (.type "re.Match") "__bool__" = pure none := by rw [typeLookup_type, builtinLookup_eq_fast]; kernel_rfl
theorem match_no_len : typeLookup (.type "re.Match") "__len__" = pure none := by rw [typeLookup_type, builtinLookup_eq_fast]; kernel_rfl
end Mine
namespace Mine
open PySem.Builtin PySem.Builtin.Re
def codeA : Array Nat := #[14, 4, 0, 1, 4294967295, 17, 0, 24, 9, 0, 4294967295, 13, 4, 8, 12, 0, 1, 17, 1, 13, 4, 8, 13, 0, 1]
theorem named_is (v : Value) : reNamed "re.Pattern.match" "match" ["string", "pos", "endpos"] 1 [v] [] = pure [some v, none, none] := by
  rfl
theorem runFor_done : ∀ (n : Nat) (m : Sre.M), m.outcome.isSome = true → m.runFor n = m
  | 0, _, _ => rfl
  | n + 1, m, h => by unfold Sre.M.runFor; rw [if_pos h]
theorem runFor_add : ∀ (a b : Nat) (m : Sre.M), m.runFor (a + b) = (m.runFor a).runFor b
  | 0, b, m => by rw [Nat.zero_add]; rfl
  | a + 1, b, m => by
    rw [Nat.add_right_comm]
    by_cases h : m.outcome.isSome = true
    · rw [runFor_done _ _ h, runFor_done _ _ h, runFor_done _ _ h]
    · have e1 : ∀ n, m.runFor (n + 1) = m.step.runFor n := fun n => by
        show (if m.outcome.isSome = true then m else m.step.runFor n) = _
        rw [if_neg h]
      rw [e1, e1]
      exact runFor_add a b m.step
section
variable {prog : Program} {w : World} {A : Around} {E : Value → Shared → Prop} {s : Shared}
theorem drive_wp {Q : Sre.M → Shared → Prop} : ∀ (j fuel : Nat) (m : Sre.M), j < fuel → (m.runFor (4 * (j + 1))).outcome.isSome = true → Q (m.runFor (4 * (j + 1))) s → wpAny (model prog w) A (reDrive fuel m) Q E s
  | _, 0, _, h, _, _ => absurd h (Nat.not_lt_zero _)
  | j, fuel + 1, m, h, ho, hq => by
    unfold reDrive
    show wpAny _ _ (if (m.runFor 4).outcome.isSome = true then pure (m.runFor 4) else _) _ _ _
    by_cases hd : (m.runFor 4).outcome.isSome = true
    · rw [if_pos hd]
      have e : m.runFor (4 * (j + 1)) = m.runFor 4 := by
        rw [show 4 * (j + 1) = 4 + 4 * j by omega, runFor_add, runFor_done _ _ hd]
      rw [e] at hq
      exact wpAny_pure hq
    · rw [if_neg hd]
      cases j with
      | zero => exact absurd ho hd
      | succ j =>
        have e : m.runFor (4 * (j + 1 + 1)) = (m.runFor 4).runFor (4 * (j + 1)) := by
          rw [show 4 * (j + 1 + 1) = 4 + 4 * (j + 1) by omega, runFor_add]
        rw [e] at ho hq
        exact wpAny_bind (wpAny_rule (drive_wp j fuel (m.runFor 4) (by omega) ho hq))
theorem rules_wp {Q : PUnit → Shared → Prop} (c : Nat → Bool) (f : Nat → String) : ∀ l : List Nat, Q ⟨⟩ s → wpAny (model prog w) A (forIn l PUnit.unit (fun i _ => if c i = true then (do rule (f i); pure (ForInStep.yield PUnit.unit)) else pure (ForInStep.yield PUnit.unit)) : Sem PUnit) Q E s
  | [], h => wpAny_pure h
  | a :: r, h => by
    rw [List.forIn_cons]
    by_cases hc : c a = true
    · simp only [hc, if_true]
      exact wpAny_bind (wpAny_bind (wpAny_rule (wpAny_pure (rules_wp c f r h))))
    · rw [if_neg hc]
      exact wpAny_bind (wpAny_pure (rules_wp c f r h))
theorem toEnd_wp {Q : Option Sre.M → Shared → Prop} (m : Sre.M) (j : Nat) (hj : j < 2 ^ 64) (h1 : match (m.runFor (4 * (j + 1))).outcome with | some .matched => Q (some (m.runFor (4 * (j + 1)))) s | some .failed => Q none s | _ => False) : wpAny (model prog w) A (reRunToEnd m) Q E s := by
  unfold reRunToEnd
  have ho : (m.runFor (4 * (j + 1))).outcome.isSome = true := by
    revert h1
    cases (m.runFor (4 * (j + 1))).outcome with
    | none => exact fun h => h.elim
    | some o => intro _; rfl
  refine wpAny_bind (drive_wp j _ m hj ho ?_)
  refine wpAny_bind (rules_wp _ _ _ ?_)
  revert h1
  cases (m.runFor (4 * (j + 1))).outcome with
  | none => exact fun h => h.elim
  | some o =>
    cases o with
    | matched => exact fun h => wpAny_pure h
    | failed => exact fun h => wpAny_pure h
    | stuck _ => exact fun h => h.elim
end
def patO : Obj := { cls := .type "re.Pattern", data := .fields #[.str (Str.ofString "(\\s*)\\S") 296, .int 32 324, .int 1 0, .none, .none, .ref 42, .int 0 0] }
def codeO : Obj := { cls := .type "tuple", data := .seq #[.int 14 0, .int 4 0, .int 0 0, .int 1 0, .int 4294967295 0, .int 17 0, .int 0 0, .int 24 0, .int 9 0, .int 0 0, .int 4294967295 0, .int 13 0, .int 4 0, .int 8 0, .int 12 0, .int 0 0, .int 1 0, .int 17 0, .int 1 0, .int 13 0, .int 4 0, .int 8 0, .int 13 0, .int 0 0, .int 1 0] }
def tgt (x : Str) (t : Tok) : ReTarget := { pattern := .ref 43, string := .str x t, code := codeA, text := x.cps, kind := 0, groups := 1, pos := 0, lim := x.cps.size }
section
variable {prog : Program} {w : World} {A : Around} {E : Value → Shared → Prop} {s : Shared} {x : Str} {t : Tok}
theorem code_is : Array.map (fun x => x.toNat) (Array.map reRawOf ((some #[.int 14 0, .int 4 0, .int 0 0, .int 1 0, .int 4294967295 0, .int 17 0, .int 0 0, .int 24 0, .int 9 0, .int 0 0, .int 4294967295 0, .int 13 0, .int 4 0, .int 8 0, .int 12 0, .int 0 0, .int 1 0, .int 17 0, .int 1 0, .int 13 0, .int 4 0, .int 8 0, .int 13 0, .int 0 0, .int 1 0] : Option (Array Value)).getD #[])) = codeA := by decide +kernel
theorem target_wp {Q : ReTarget → Shared → Prop} (h1 : s.heap.get? 43 = some patO) (h2 : s.heap.get? 42 = some codeO) (hx : x.length ≤ 1000) (h : Q (tgt x t) s) : wpAny (model prog w) A (reTarget "re.Pattern.match" "match" ⟨[.ref 43, .str x t], []⟩) Q E s := by
  unfold reTarget
  refine wpAny_bind (wpAny_of_eq (named_is _) ?_)
  refine wpAny_bind (wpAny_pure ?_)
  refine wpAny_bind (wpAny_pure ?_)
  refine wpAny_bind (wpAny_bind (wpAny_load h1 (wpAny_pure ?_)))
  refine wpAny_bind (wpAny_bind (wpAny_pure (wpAny_pure ?_)))
  show wpAny _ _ (reNoCollectionInside (Value.str x t) 0 >>= fun _ => reRawItems (.ref 42) >>= fun d => pure { pattern := Value.ref 43, string := Value.str x t, code := Array.map (fun x => x.toNat) d, text := x.cps, kind := 0, groups := 1, pos := min (0 : Int).toNat x.cps.size, lim := min ((2 : Int) ^ 63 - 1).toNat x.cps.size }) Q E s
  refine wpAny_bind (wpAny_pure ?_)
  refine wpAny_bind (wpAny_bind (wpAny_bind (wpAny_load h2 (wpAny_pure ?_))))
  refine wpAny_pure (wpAny_pure ?_)
  have e1 : min (0 : Int).toNat x.cps.size = 0 := Nat.zero_min _
  have e2 : min ((2 : Int) ^ 63 - 1).toNat x.cps.size = x.cps.size := by
    have : x.cps.size ≤ 1000 := hx
    have e3 : ((2 : Int) ^ 63 - 1).toNat = 9223372036854775807 := by decide
    rw [e3]; omega
  rw [e1, e2]
  have e4 := code_is
  show Q { pattern := Value.ref 43, string := Value.str x t, code := _, text := x.cps, kind := 0, groups := 1, pos := 0, lim := x.cps.size } s
  rw [e4]
  exact h
theorem newMatch_wp {Q : Value → Shared → Prop} {h₀ : Heap} {L : Addr} {m₀ : Str → Option Value} {news : List (Addr × Obj)} {lim b e : Nat} (m : Sre.M) (F : Fr h₀ L s.heap m₀) (N : News h₀ L s.heap news)
    (hb : m.marks.getD 0 none = some b) (he : m.marks.getD 1 none = some e) (hbe : ¬ e < b)
    (h : ∀ (a : Addr) (vs : Array Value) (h' : Heap), Fr h₀ L h' m₀ → News h₀ L h' ((a, { cls := .type "re.Match", data := .fields vs }) :: news) → Q (.ref a) { s with heap := h' }) :
    wpAny (model prog w) A (reNewMatch (.ref 43) (.str x t) 1 0 lim m) Q E s := by
  unfold reNewMatch
  have hr : List.range 1 = [0] := rfl
  simp only [hr, List.any_cons, List.any_nil, Nat.mul_zero, Nat.zero_add, hb, he, decide_eq_false hbe, Bool.and_false, Bool.or_false, Bool.false_eq_true, if_false, List.flatMap_cons, List.flatMap_nil, List.append_nil]
  refine wpAny_bind (wpAny_newObj_type (wpAny_newObj_type (h _ _ _ ((F.push _).push _) (News.push (F.push _) (fun p hp => (News.push F N _) p (.tail _ hp)) _)) ?_) ?_)
  · show _ ≤ sizeLine + 2
    rw [sizeLine_eq]
    exact Nat.le_of_ble_eq_true rfl
  · show Array.size _ ≤ sizeLine
    rw [List.size_toArray, sizeLine_eq]
    split <;> exact Nat.le_of_ble_eq_true rfl
theorem truthy_match {Q : Bool → Shared → Prop} {a : Addr} {o : Obj} (h1 : s.heap.get? a = some o) (h2 : o.cls = .type "re.Match") (h : Q true s) : wpAny (model prog w) A (truthy (.ref a)) Q E s := by
  have hT : s.TypeIs (.ref a) "re.Match" := ⟨o, h1, h2⟩
  unfold truthy
  refine wpAny_bind (m := callSpecial? (.ref a) (Str.ofString "__bool__")) ?_
  unfold callSpecial?
  refine wpAny_bind (wpAny_specialOf hT match_no_bool ?_)
  refine wpAny_pure ?_
  refine wpAny_bind (wpAny_specialOf hT match_no_len ?_)
  exact wpAny_pure h
end
theorem pat_in (w : World) : (hd.heap_39 w.params).lookup 43 = some patO := by rfl
theorem code_in (w : World) : (hd.heap_39 w.params).lookup 42 = some codeO := by rfl
def runM (l : List Nat) (k : Nat) : Sre.M := (Sre.forMatch codeA l.toArray 1 0 l.toArray.size false false).runFor (4 * (k + 1))
def badsL : List (List Nat) := [[], [97], [98, 32, 99], [100, 9, 101], [104, 9, 32, 105]]
def goodM (m : Sre.M) (empty : Bool) : Bool := match m.outcome with
  | some .matched => !empty && (match m.marks.getD 0 none, m.marks.getD 1 none with | some b, some e => decide (b ≤ e) | _, _ => false)
  | some .failed => empty
  | _ => false
theorem all_good : (List.range 31).all (fun n => badsL.all fun b => goodM (runM (List.replicate n 32 ++ b) 59) b.isEmpty) = true := by decide +kernel
theorem one_good {n : Nat} {b : List Nat} (hn : n ≤ 30) (hb : b ∈ badsL) : goodM (runM (List.replicate n 32 ++ b) 59) b.isEmpty = true :=
  List.all_eq_true.mp (List.all_eq_true.mp all_good n (List.mem_range.mpr (by omega))) b hb
section
variable {prog : Program} {w : World} {A : Around} {E : Value → Shared → Prop} {s : Shared} {x : Str} {t : Tok}
theorem call_match {Q : Value → Shared → Prop} {h₀ : Heap} {L : Addr} {m₀ : Str → Option Value} {news : List (Addr × Obj)} {n : Nat} {b : List Nat} (X : (hd.heap_39 w.params).In h₀) (F : Fr h₀ L s.heap m₀) (N : News h₀ L s.heap news)
    (hx : x.cps.toList = List.replicate n 32 ++ b) (hn : n ≤ 30) (hb : b ∈ badsL)
    (h0 : b.isEmpty = true → Q .none s) (h1 : b.isEmpty = false → ∀ (a : Addr) (vs : Array Value) (h' : Heap), Fr h₀ L h' m₀ → News h₀ L h' ((a, { cls := .type "re.Match", data := .fields vs }) :: news) → Q (.ref a) { s with heap := h' }) :
    wpAny (model prog w) A (call (.builtin "re.Pattern.match") [.ref 43, .str x t]) Q E s := by
  have g1 : s.heap.get? 43 = some patO := F.keep _ _ (X _ _ (pat_in w))
  have g2 : s.heap.get? 42 = some codeO := F.keep _ _ (X _ _ (code_in w))
  have hlen : x.length ≤ 1000 := by
    rw [len_is, hx, List.length_append, List.length_replicate]
    have : b.length ≤ 4 := by
      simp only [badsL, List.mem_cons, List.not_mem_nil, or_false] at hb
      rcases hb with rfl | rfl | rfl | rfl | rfl <;> decide
    omega
  refine wpAny_call_entry slot_pat_match ⟨_, g1, rfl⟩ entry_pat_match ?_ (args_pat_match _ _)
  unfold Builtin.«re.Pattern.match»
  refine wpAny_bind (target_wp g1 g2 hlen ?_)
  unfold reAnswer
  have hm : x.cps = (List.replicate n 32 ++ b).toArray := by rw [← hx]
  have hgood := one_good hn hb
  have hM : (Sre.forMatch (tgt x t).code (tgt x t).text (tgt x t).groups (tgt x t).pos (tgt x t).lim false false).runFor (4 * (59 + 1)) = runM (List.replicate n 32 ++ b) 59 := by
    unfold tgt runM
    rw [hm]
  refine wpAny_bind (toEnd_wp _ 59 (by decide) ?_)
  rw [hM]
  generalize runM (List.replicate n 32 ++ b) 59 = m at hgood
  unfold goodM at hgood
  cases ho : m.outcome with
  | none => rw [ho] at hgood; cases hgood
  | some o =>
    rw [ho] at hgood
    cases o with
    | stuck _ => cases hgood
    | failed => exact wpAny_pure ⟨_, rfl, h0 hgood⟩
    | matched =>
      have hg : (!b.isEmpty && (match m.marks.getD 0 none, m.marks.getD 1 none with | some b, some e => decide (b ≤ e) | _, _ => false)) = true := hgood
      rw [Bool.and_eq_true, Bool.not_eq_true'] at hg
      obtain ⟨hg1, hg2⟩ := hg
      cases hb0 : m.marks.getD 0 none with
      | none => rw [hb0] at hg2; cases hg2
      | some b0 =>
        cases he0 : m.marks.getD 1 none with
        | none => rw [hb0, he0] at hg2; cases hg2
        | some e0 =>
          rw [hb0, he0] at hg2
          have hle : b0 ≤ e0 := of_decide_eq_true hg2
          exact wpAny_bind (newMatch_wp m F N hb0 he0 (by omega) fun a vs h' F' N' => wpAny_pure ⟨_, rfl, h1 hg1 a vs h' F' N'⟩)
end
end Mine
namespace Mine
def firstF (blank : Int) (body : Str) : Str := if body.length = 0 then Str.ofString "" else if 5 ≤ blank then Txt.mul (Str.ofString " ") (blank - 1) ++ body ++ Str.ofString "\n" else body ++ Str.ofString "\n"
def widthF (lw blank : Int) (body : Str) : Int := if body.length = 0 then lw + 1 else if 5 ≤ blank then lw + 1 else lw + blank
theorem bodies_bads {body : Str} (h : body ∈ bodiesL) : body.cps.toList ∈ badsL := by
  simp only [bodiesL, List.mem_cons, List.not_mem_nil, or_false] at h
  rcases h with rfl | rfl | rfl | rfl | rfl <;> decide +kernel
theorem bodies_len {body : Str} (h : body ∈ bodiesL) : body.length ≤ 4 := by
  simp only [bodiesL, List.mem_cons, List.not_mem_nil, or_false] at h
  rcases h with rfl | rfl | rfl | rfl | rfl <;> decide +kernel
theorem bodies_expand {body : Str} (h : body ∈ bodiesL) (s : Nat) : expand body.cps.toList s = body.cps.toList := by
  have h := bodies_bads h
  simp only [badsL, List.mem_cons, List.not_mem_nil, or_false] at h
  rcases h with e | e | e | e | e <;> rw [e] <;> simp [expand]
theorem bodies_cnt {body : Str} (h : body ∈ bodiesL) (s : Nat) : cnt body.cps.toList s = s := by
  have h := bodies_bads h
  simp only [badsL, List.mem_cons, List.not_mem_nil, or_false] at h
  rcases h with e | e | e | e | e <;> rw [e] <;> simp [cnt]
theorem cnt_ge : ∀ (l : List Nat) (s : Nat), s ≤ cnt l s
  | [], _ => Nat.le_refl _
  | c :: r, s => by
    unfold cnt
    split
    · exact Nat.le_trans (Nat.le_succ s) (cnt_ge r (s + 1))
    · split
      · exact Nat.le_trans (Nat.le_add_right _ _) (cnt_ge r _)
      · exact Nat.le_refl _
theorem cnt_le : ∀ (l : List Nat) (s : Nat), cnt l s ≤ s + 4 * l.length
  | [], _ => by simp [cnt]
  | c :: r, s => by
    unfold cnt
    split
    · have := cnt_le r (s + 1); simp only [List.length_cons]; omega
    · split
      · have := cnt_le r (s + (4 - s % 4)); simp only [List.length_cons]; omega
      · simp only [List.length_cons]; omega
theorem expand_app : ∀ (l r : List Nat) (s : Nat), (∀ c ∈ l, blank2 c = true) → expand (l ++ r) s = List.replicate (cnt l s - s) 32 ++ expand r (cnt l s)
  | [], r, s, _ => by simp [cnt]
  | c :: l, r, s, h => by
    have hc := h c (List.mem_cons_self ..)
    have hl := fun a ha => h a (List.mem_cons_of_mem c ha)
    rw [List.cons_append]
    by_cases h1 : c = 32
    · have hg := cnt_ge l (s + 1)
      rw [expand, cnt, if_pos h1, if_pos h1, expand_app l r _ hl]
      have e : cnt l (s + 1) - s = (cnt l (s + 1) - (s + 1)) + 1 := by omega
      rw [e, List.replicate_succ]
      rfl
    · by_cases h2 : c = 9
      · have hg := cnt_ge l (s + (4 - s % 4))
        rw [expand, cnt, if_neg h1, if_neg h1, if_pos h2, if_pos h2, expand_app l r _ hl, ← List.append_assoc, List.replicate_append_replicate]
        have e : 4 - s % 4 + (cnt l (s + (4 - s % 4)) - (s + (4 - s % 4))) = cnt l (s + (4 - s % 4)) - s := by omega
        rw [e]
      · simp [blank2, h1, h2] at hc
theorem cnt_rep : ∀ (k s : Nat) (r : List Nat), cnt (List.replicate k 32 ++ r) s = cnt r (s + k)
  | 0, s, r => by simp
  | k + 1, s, r => by
    rw [List.replicate_succ, List.cons_append, cnt, if_pos rfl, cnt_rep k (s + 1) r]
    have e : s + 1 + k = s + (k + 1) := by omega
    rw [e]
theorem lead_col {lw col : Int} {lead : Str} (h : LeadInv lw lead col) (h0 : 0 ≤ lw) (hl : lead.length ≤ 7) : 0 ≤ col - lw ∧ col - lw ≤ 28 ∧ (col - lw).toNat = cnt lead.cps.toList lw.toNat - lw.toNat := by
  have h1 := cnt_ge lead.cps.toList lw.toNat
  have h2 := cnt_le lead.cps.toList lw.toNat
  have h3 := h.col
  rw [len_is] at hl
  omega
theorem first_text {lw col : Int} {lead body : Str} (h : LeadInv lw lead col) (h0 : 0 ≤ lw) (hl : lead.length ≤ 7) (hb : body ∈ bodiesL) :
    (Str.mk (expand (lead ++ body).cps.toList lw.toNat).toArray).cps.toList = List.replicate (col - lw).toNat 32 ++ body.cps.toList := by
  show expand (lead ++ body).cps.toList lw.toNat = _
  rw [toL_append, expand_app _ _ _ h.all, bodies_expand hb, (lead_col h h0 hl).2.2]
theorem first_count {lw col : Int} {lead body : Str} (h : LeadInv lw lead col) (h0 : 0 ≤ lw) (hl : lead.length ≤ 7) (hb : body ∈ bodiesL) :
    ((cnt (Str.mk (expand (lead ++ body).cps.toList lw.toNat).toArray).cps.toList 0 : Nat) : Int) = col - lw := by
  rw [first_text h h0 hl hb, cnt_rep, bodies_cnt hb]
  have := (lead_col h h0 hl).1
  omega
theorem lead_short {lead body : Str} (hl : lead.length ≤ 7) (hb : body ∈ bodiesL) : (lead ++ body).length ≤ 1000 := by
  have := bodies_len hb
  rw [len_is, toL_append, List.length_append, ← len_is, ← len_is]; omega
theorem first_short {lw col : Int} {lead body : Str} (h : LeadInv lw lead col) (h0 : 0 ≤ lw) (hl : lead.length ≤ 7) (hb : body ∈ bodiesL) : (Str.mk (expand (lead ++ body).cps.toList lw.toNat).toArray).length ≤ 1000 := by
  have h1 := lead_col h h0 hl
  have h2 := bodies_len hb
  rw [len_is] at h2
  rw [len_is, first_text h h0 hl hb, List.length_append, List.length_replicate]
  omega
abbrev CRet (h₀ : Heap) (L : Addr) (s : Shared) (Q : Value → Shared → Prop) (first : Str) (width : Int) : Prop :=
  ∀ (t1 t2 : Tok) (D : Addr) (h' : Heap) (tk' : Nat), s.heap.StaysIn h' → News h₀ L h' [(D, tupO [.str first t1, .int width t2])] → Q (.ref D) { s with heap := h', toks := tk' }
theorem comp_ret {h₀ : Heap} {L : Addr} {s : Shared} {Q : Value → Shared → Prop} {first f : Str} {width wd : Int} {t1 t2 : Tok} {D : Addr} {h' : Heap} {tk' : Nat} {rest : List (Addr × Obj)} (hret : CRet h₀ L s Q first width) (hst : s.heap.StaysIn h') (N : News h₀ L h' ((D, tupO [.str f t1, .int wd t2]) :: rest))
    (e1 : f = first) (e2 : wd = width) : Q (.ref D) { s with heap := h', toks := tk' } := by
  subst e1; subst e2
  exact hret t1 t2 D h' tk' hst (fun p hp => N p (by rw [List.mem_singleton.mp hp]; exact List.mem_cons_self ..))
theorem len_zero {body : Str} (h : body.cps.toList.isEmpty = true) : body.length = 0 := by
  rw [len_is, List.isEmpty_iff.mp h]; rfl
theorem len_pos {body : Str} (h : body.cps.toList.isEmpty = false) : body.length ≠ 0 := by
  rw [len_is]
  intro e
  rw [List.eq_nil_of_length_eq_zero e] at h
  cases h
theorem slice_fit {y : Str} {k : Int} (hx : y.length ≤ 1000) : (Txt.slice y (some k) none).length + (Str.ofString "\n").length ≤ sizeLine := by
  have h4 := Txt.slice_le y (some k) none
  have e : (Str.ofString "\n").length = 1 := by decide +kernel
  rw [e, sizeLine_eq]; omega
theorem leaf_far {lw col : Int} {lead body : Str} (h : LeadInv lw lead col) (h0 : 0 ≤ lw) (hl : lead.length ≤ 7) (hb : body ∈ bodiesL) (hE : body.cps.toList.isEmpty = false) (h5 : 5 ≤ col - lw) :
    Txt.slice (Str.mk (expand (lead ++ body).cps.toList lw.toNat).toArray) (some 1) none ++ Str.ofString "\n" = firstF (col - lw) body := by
  unfold firstF
  rw [if_neg (len_pos hE), if_pos h5]
  refine str_eq ?_
  have ht := first_text h h0 hl hb
  generalize Str.mk (expand (lead ++ body).cps.toList lw.toNat).toArray = y at ht ⊢
  rw [toL_append, toL_append, toL_append, slice_from (by omega) (by rw [len_is, ht, List.length_append, List.length_replicate]; omega), ht, mul_sp]
  have e : (col - lw).toNat = (col - lw - 1).toNat + 1 := by omega
  rw [e, List.replicate_succ]
  rfl
theorem leaf_near {lw col : Int} {lead body : Str} (h : LeadInv lw lead col) (h0 : 0 ≤ lw) (hl : lead.length ≤ 7) (hb : body ∈ bodiesL) (hE : body.cps.toList.isEmpty = false) (h5 : ¬ 5 ≤ col - lw) :
    Txt.slice (Str.mk (expand (lead ++ body).cps.toList lw.toNat).toArray) (some (col - lw)) none ++ Str.ofString "\n" = firstF (col - lw) body := by
  unfold firstF
  rw [if_neg (len_pos hE), if_neg h5]
  refine str_eq ?_
  have ht := first_text h h0 hl hb
  generalize Str.mk (expand (lead ++ body).cps.toList lw.toNat).toArray = y at ht ⊢
  have hc := (lead_col h h0 hl).1
  rw [toL_append, toL_append, slice_from hc (by rw [len_is, ht, List.length_append, List.length_replicate]; omega), ht]
  rw [List.drop_append_of_le_length (by rw [List.length_replicate]; exact Nat.le_refl _), List.drop_of_length_le (by rw [List.length_replicate]; exact Nat.le_refl _)]
  rfl
local macro_rules | `(tactic| walk_at "mine enter") => `(tactic| (refine' code_pure ?k1 ?k2 ?k3 ?k5 ?kA ?kF ?kK ?k6 ?k7 ?k8 ?k9 ?kB ?_ ?c2 ?c3 ?c4 ?c5; (case kA => exact rfl); (case kF => exact rfl); (case kK => assumption); (case k1 => k_asm); (case k2 => k_asm); (case k3 => k_asm); (case k5 => k_asm); (case k6 => k_is); (case k7 => k_is); (case k8 => ktr_room); (case k9 => first | exact BindsTo.of_eq rfl | exact binds_K (by k_in) rfl (by k_is) rfl rfl rfl | fail "enter: no rule for these arguments"); (case c5 => decide); (case kB => exact locs rfl); (case c2 => exact rfl); (case c3 => exact rfl); (case c4 => exact rfl); k_whole; intro g' L' h' hg' FG' F' N' B' X' T'; (try dsimp only); (try k_lift B'); (try k_fold)))
local macro_rules | `(tactic| walk_at "mine same") => `(tactic| (intro z h2 h3; (simp only [List.forall_mem_cons, List.not_mem_nil, false_implies, implies_true, and_true, ne_eq] at h2); (try simp only [List.contains_cons, List.contains_nil, Bool.or_false, Bool.or_eq_false_iff, beq_eq_false_iff_ne, ne_eq] at h3); (first | simp only [kstB, h2, h3, if_false, List.contains_cons, List.contains_nil, Bool.or_false, beq_iff_eq, Bool.or_eq_true, or_self, false_or, Bool.false_eq_true, decide_false, Bool.or_self] | simp only [kstB, h2, if_false, List.contains_cons, List.contains_nil, Bool.or_false, beq_iff_eq, Bool.or_eq_true, or_self, false_or, Bool.false_eq_true, decide_false, Bool.or_self])))
local macro_rules | `(tactic| walk_at "KswEnd") => `(tactic| k_dflt (k_extra "kend"))
local macro_rules | `(tactic| walk_at "call builtin:str.join") => `(tactic| (k_here; (with_reducible show wpAny _ _ (call (Value.builtin "str.join") [Value.str _ _, Value.ref _]) _ _ _); k_dflt (refine' join_list ?l ?i ?o ?_; (case l => exact News.isList (by k_asm) (by k_mem)); (case i => assumption); (case o => k_extra "join")); intro _ _))
local macro_rules | `(tactic| walk_at "binaryOp Add str str") => `(tactic| (k_here; (with_reducible show wpAny _ _ (binaryOp Operator.Add (Value.str _ _) (Value.str _ _)) _ _ _); (refine SBL.add (hsz := ?hsz) ?_); (case hsz => k_extra "fit"); intro _ _ _))
local macro_rules | `(tactic| walk_at "exec While BoolOp cons nil") => `(tactic| k_dflt (k_extra "my while"))
local macro_rules | `(tactic| walk_at "exec While Compare cons nil") => `(tactic| k_dflt (k_extra "my while"))
local macro_rules | `(tactic| walk_at "mine call") => `(tactic| ((case k1 => k_asm); (case k2 => k_asm); (case k3 => k_asm); (case k4 => k_asm); (case k5 => k_asm); (case kK => first | exact rfl | assumption); (case kd => ktr_room); (case ku => ktr_units); intro t9 h9 tk9 F9 N9; (try dsimp only); (try k_fold)))
local macro_rules | `(tactic| walk_at "pyIter ref") => `(tactic| k_dflt (k_extra "my for"))
local macro_rules | `(tactic| walk_at "InvEndN") => `(tactic| k_dflt (k_extra "fend"))
local macro_rules | `(tactic| walk_at "mine for same") => `(tactic| (intro z h1 h2 h3; (try simp only [List.forall_mem_cons, List.not_mem_nil, false_implies, implies_true, and_true, ne_eq] at h2); (try simp only [List.contains_cons, List.contains_nil, Bool.or_false, Bool.or_eq_false_iff, beq_eq_false_iff_ne, ne_eq] at h3); (first | simp only [kstB, h1, h2, h3, if_false, List.contains_cons, List.contains_nil, Bool.or_false, beq_iff_eq, Bool.or_eq_true, or_self, false_or, Bool.false_eq_true, decide_false, Bool.or_self] | simp only [kstB, h1, h2, if_false, List.contains_cons, List.contains_nil, Bool.or_false, beq_iff_eq, Bool.or_eq_true, or_self, false_or, Bool.false_eq_true, decide_false, Bool.or_self] | simp only [kstB, h1, h3, if_false, List.contains_cons, List.contains_nil, Bool.or_false, beq_iff_eq, Bool.or_eq_true, or_self, false_or, Bool.false_eq_true, decide_false, Bool.or_self] | simp only [kstB, h1, if_false, List.contains_cons, List.contains_nil, Bool.or_false, beq_iff_eq, Bool.or_eq_true, or_self, false_or, Bool.false_eq_true, decide_false, Bool.or_self])))
local macro_rules | `(tactic| walk_at "mine enterN") => `(tactic| (refine' code_def ?k1 ?k2 ?k3 ?k4 ?k5 ?kA ?kF ?kK ?k6 ?k7 ?k8 ?k9 ?kB ?_ ?c2 ?c3 ?c4 ?c5; (case kA => exact rfl); (case kF => exact rfl); (case kK => first | exact rfl | assumption); (case k1 => k_asm); (case k2 => k_asm); (case k3 => k_asm); (case k4 => k_asm); (case k5 => k_asm); (case k6 => k_is); (case k7 => k_is); (case k8 => ktr_room); (case k9 => exact BindsTo.of_eq rfl); (case c5 => decide); (case kB => exact locs rfl); (case c2 => exact rfl); (case c3 => exact rfl); (case c4 => exact rfl); k_whole; intro g' L' h' FG' F' N' B' X' T'; (try dsimp only); (try k_lift B'); (try k_fold)))
local macro_rules | `(tactic| walk_at "inplaceOp Add str str") => `(tactic| (k_here; (with_reducible show wpAny _ _ (inplaceOp Operator.Add (Value.str _ _) (Value.str _ _)) _ _ _); (refine SBL.iadd (hsz := ?hsz) ?_); (case hsz => k_extra "fit"); intro _ _ _))
local macro_rules | `(tactic| walk_at "call ref") => `(tactic| (k_here; (with_reducible show wpAny _ _ (call (Value.ref 86) [_, _]) _ _ _); k_dflt (refine' pcall_use (expand_spec _ _ _ _ ?hx ?h0) ?k1 ?k2 ?k3 ?k4 ?k5 ?kK ?kd ?ku ?_; (case hx => exact lead_short (by assumption) (by assumption)); (case h0 => assumption); walk_at "mine call")))
local macro_rules | `(tactic| walk_at "call ref") => `(tactic| (k_here; (with_reducible show wpAny _ _ (call (Value.ref 93) _) _ _ _); k_dflt (refine' pcall_use (count_spec _ _) ?k1 ?k2 ?k3 ?k4 ?k5 ?kK ?kd ?ku ?_; walk_at "mine call"; k_extra "count")))
local macro_rules | `(tactic| walk_at "getMethod ref") => `(tactic| (k_here; (with_reducible show wpAny _ _ (getMethod (Value.ref 43) _ _) _ _ _); k_dflt (refine' getMethod_builtin (T := "re.Pattern") ?T plainAttrs_pat slot_pat_match type_pat_match ?d ?_; (case T => exact ⟨_, Fr.keep (by k_asm) _ _ (Frag.In.keeps (by k_asm) (fun _ _ e => e) _ _ (pat_in _)), rfl⟩); (case d => (intro a9 e9; cases e9; exact ⟨_, Fr.keep (by k_asm) _ _ (Frag.In.keeps (by k_asm) (fun _ _ e => e) _ _ (pat_in _)), rfl⟩)))))
local macro_rules | `(tactic| walk_at "call builtin:re.Pattern.match") => `(tactic| (k_here; k_dflt (k_extra "match")))
local macro_rules | `(tactic| walk_at "truthy ref") => `(tactic| (k_here; k_dflt (refine' truthy_match (News.get (by k_asm) ?m) ?c ?_; (case m => k_mem); (case c => rfl))))
set_option maxHeartbeats 4000000 in
theorem compile_spec {prog : Program} {w : World} {p : Program} {loose : List Str} {mean : ExcName → Option Value} {mg mb : Str → Option Value}
    (lead body : Str) (lw col : Int) (tx tl : Tok) (hI : LeadInv lw lead col) (hl : lead.length ≤ 7) (hb : body ∈ bodiesL) (h0 : 0 ≤ lw) (h1 : lw ≤ 12)
    (dp un : Nat) (gd : Option (List Code)) (cn : Str) (cs : Scope) (a : Addr) (ccd : Value) (cl : List (Str × Addr)) (outer : List Env) (A₀ : Around) (base h₀ : Heap) (L : Addr) (m : Str → Option Value) (s : Shared) (Q E : Value → Shared → Prop)
    (B : Below A₀ base outer h₀) (F : Fr h₀ L s.heap m) (X : (hd.heap_39 w.params).In h₀) (T : Top p loose mean mg mb h₀) (hk : cs.kind = .function) (hd : dp + 2 < recursionLimit) (hu : un + 16 < cLine)
    (hret : CRet h₀ L s Q (firstF (col - lw) body) (widthF lw (col - lw) body)) : wpAny (model prog w) (ktrTop dp un gd cn cs L a ccd cl outer) (call (.ref 57) [.str (lead ++ body) tx, .int lw tl]) Q E s := by
  refine wpAny_call ?_
  (k_with_none)
  w_top off
  k_dflt (walk_at "mine enter")
  (k_with_none)
  have hcol := lead_col hI h0 hl
  obtain ⟨hc0, hc1, _⟩ := hcol
  have hsh := first_short hI h0 hl hb
  (k_with "fit" => exact slice_fit (by assumption))
  (k_with "count" => (rw [first_count hI h0 hl hb]))
  (k_with "match" => ((refine' call_match ?k1 ?k2 ?k3 (first_text hI h0 hl hb) (by omega) (bodies_bads hb) ?_ ?_); (case k1 => k_asm); (case k2 => k_asm); (case k3 => k_asm); (first | intro hE | intro hE); (rotate_left); (intro hE a9 vs9 h9 F9 N9); (rotate_left)))
  k_steps
  all_goals first
    | exact comp_ret (by subst_vars; exact hret) (by subst_vars; assumption) (by assumption) (by unfold firstF; rw [if_pos (len_zero hE)]) (by unfold widthF; rw [if_pos (len_zero hE)])
    | exact comp_ret (by subst_vars; exact hret) (by subst_vars; assumption) (by assumption) (leaf_far hI h0 hl hb hE (by assumption)) (by unfold widthF; rw [if_neg (len_pos hE), if_pos (by assumption)])
    | exact comp_ret (by subst_vars; exact hret) (by subst_vars; assumption) (by assumption) (leaf_near hI h0 hl hb hE (by assumption)) (by unfold widthF; rw [if_neg (len_pos hE), if_neg (by assumption)])
end Mine
namespace Mine
-- the law's own lines, and what the code makes of them
theorem hasC_app (cols : Int) : ∀ (l b : List Nat) (w : Nat), (∀ c ∈ l, blank2 c = true) → (∀ s, hasC cols b s = false) → (w : Int) < cols → hasC cols (l ++ b) w = decide (cols ≤ ((cnt l w : Nat) : Int))
  | [], b, w, _, hb, hw => by
    rw [List.nil_append, hb, cnt]
    exact (decide_eq_false (by omega)).symm
  | c :: l, b, w, h, hb, hw => by
    have hc := h c (List.mem_cons_self ..)
    have hl := fun a ha => h a (List.mem_cons_of_mem c ha)
    rw [List.cons_append]
    by_cases h1 : c = 32
    · have hg := cnt_ge l (w + 1)
      rw [hasC, cnt, if_pos h1, if_pos h1]
      split
      · exact (decide_eq_true (by omega)).symm
      · exact hasC_app cols l b (w + 1) hl hb (by omega)
    · by_cases h2 : c = 9
      · have hg := cnt_ge l (w + (4 - w % 4))
        rw [hasC, cnt, if_neg h1, if_neg h1, if_pos h2, if_pos h2]
        split
        · exact (decide_eq_true (by omega)).symm
        · exact hasC_app cols l b (w + (4 - w % 4)) hl hb (by omega)
      · simp [blank2, h1, h2] at hc
theorem stripL_stop (cols : Int) (l : List Nat) (w : Nat) (h : ¬ (w : Int) < cols) : stripL cols l w = (l, w) := by
  cases l with
  | nil => rfl
  | cons c r => rw [stripL, if_neg h]
theorem strip_app (cols : Int) : ∀ (l b : List Nat) (w : Nat), (∀ c ∈ l, blank2 c = true) → (∀ s, expand b s = b) → cols ≤ ((cnt l w : Nat) : Int) →
    ¬ ((stripL cols (l ++ b) w).2 : Int) < cols ∧ List.replicate (((stripL cols (l ++ b) w).2 : Int) - cols).toNat 32 ++ expand (stripL cols (l ++ b) w).1 (stripL cols (l ++ b) w).2 = List.replicate (((cnt l w : Nat) : Int) - cols).toNat 32 ++ b
  | l, b, w, h, hb, hc => by
    by_cases hw : (w : Int) < cols
    · cases l with
      | nil => simp only [cnt] at hc; omega
      | cons c l =>
        have hcc := h c (List.mem_cons_self ..)
        have hl := fun a ha => h a (List.mem_cons_of_mem c ha)
        rw [List.cons_append]
        by_cases h1 : c = 32
        · rw [stripL, if_pos hw, if_pos h1, cnt, if_pos h1]
          exact strip_app cols l b (w + 1) hl hb (by rw [cnt, if_pos h1] at hc; exact hc)
        · by_cases h2 : c = 9
          · rw [stripL, if_pos hw, if_neg h1, if_pos h2, cnt, if_neg h1, if_pos h2]
            exact strip_app cols l b (w + (4 - w % 4)) hl hb (by rw [cnt, if_neg h1, if_pos h2] at hc; exact hc)
          · simp [blank2, h1, h2] at hcc
    · rw [stripL_stop cols _ w hw]
      refine ⟨hw, ?_⟩
      show List.replicate ((w : Int) - cols).toNat 32 ++ expand (l ++ b) w = _
      have hg := cnt_ge l w
      rw [expand_app l b w h, hb, ← List.append_assoc, List.replicate_append_replicate]
      have e : ((w : Int) - cols).toNat + (cnt l w - w) = (((cnt l w : Nat) : Int) - cols).toNat := by omega
      rw [e]
  termination_by l => l.length
theorem bodies_hasC {body : Str} (h : body ∈ bodiesL) (cols : Int) (s : Nat) : hasC cols body.cps.toList s = false := by
  have h := bodies_bads h
  simp only [badsL, List.mem_cons, List.not_mem_nil, or_false] at h
  rcases h with e | e | e | e | e <;> rw [e] <;> simp [hasC]
theorem clean_far {lead body : Str} {col width : Int} (h : LeadInv 0 lead col) (hb : body ∈ bodiesL) (hw : 1 ≤ width) (hc : width ≤ col - 0) : Txt.mul (Str.ofString " ") (col - 0 - width) ++ body = cleanF width (lead ++ body) := by
  have hcol := h.col
  have e0 : (0 : Int).toNat = 0 := rfl
  rw [e0] at hcol
  have hh := hasC_app width lead.cps.toList body.cps.toList 0 h.all (bodies_hasC hb width) (by omega)
  have hs := strip_app width lead.cps.toList body.cps.toList 0 h.all (bodies_expand hb) (by omega)
  refine str_eq ?_
  unfold cleanF cleanL
  show _ = ite (hasC width (lead ++ body).cps.toList 0 = true) (stripC width (lead ++ body).cps.toList) (expand (lead ++ body).cps.toList 0)
  rw [toL_append, toL_append, mul_sp, hh, if_pos (decide_eq_true (by omega))]
  unfold stripC
  rw [if_neg hs.1, hs.2, ← hcol, Int.sub_zero]
theorem clean_near {lead body : Str} {col width : Int} (h : LeadInv 0 lead col) (hb : body ∈ bodiesL) (hw : 1 ≤ width) (hc : ¬ width ≤ col - 0) : Txt.mul (Str.ofString " ") (col - 0) ++ body = cleanF width (lead ++ body) := by
  have hcol := h.col
  have e0 : (0 : Int).toNat = 0 := rfl
  rw [e0] at hcol
  have hh := hasC_app width lead.cps.toList body.cps.toList 0 h.all (bodies_hasC hb width) (by omega)
  refine str_eq ?_
  unfold cleanF cleanL
  show _ = ite (hasC width (lead ++ body).cps.toList 0 = true) (stripC width (lead ++ body).cps.toList) (expand (lead ++ body).cps.toList 0)
  rw [toL_append, toL_append, mul_sp, hh, if_neg (by rw [decide_eq_true_eq]; omega), expand_app _ _ _ h.all, bodies_expand hb, Nat.sub_zero]
  have e : (col - 0).toNat = cnt lead.cps.toList 0 := by omega
  rw [e]
theorem clean_none {lead body : Str} {col width : Int} (h : LeadInv 0 lead col) (hb : body ∈ bodiesL) (hw : 1 ≤ width) (hz : lead = Str.ofString "") : Txt.mul (Str.ofString " ") (col - 0) ++ body = cleanF width (lead ++ body) := by
  refine clean_near h hb hw ?_
  have hcol := h.col
  rw [hz, em_is] at hcol
  have : col = 0 := hcol
  omega
-- signs that may stand in a text of the law's
def signOk (c : Nat) : Bool := [32, 9, 10, 97, 98, 99, 100, 101, 104, 105].contains c
theorem sign_space {c : Nat} (h : signOk c = true) : Unicode.isSpace c = blank3 c := by
  have h' : c ∈ [32, 9, 10, 97, 98, 99, 100, 101, 104, 105] := by simpa [signOk] using h
  have all : ([32, 9, 10, 97, 98, 99, 100, 101, 104, 105] : List Nat).all (fun c => Unicode.isSpace c == blank3 c) = true := by decide +kernel
  exact eq_of_beq (List.all_eq_true.mp all c h')
structure LineOk (y : Str) : Prop where
  len : y.length ≤ 11
  ok : ∀ c ∈ y.cps.toList, signOk c = true
  nl : 10 ∉ y.cps.toList
theorem bodies_ok {body : Str} (h : body ∈ bodiesL) : ∀ c ∈ body.cps.toList, signOk c = true ∧ c ≠ 10 := by
  have h := bodies_bads h
  have all : badsL.all (fun b => b.all fun c => signOk c && c != 10) = true := by decide +kernel
  intro c hc
  have := List.all_eq_true.mp (List.all_eq_true.mp all _ h) c hc
  simpa using this
theorem blank_ok {c : Nat} (h : blank2 c = true) : signOk c = true ∧ c ≠ 10 := by
  have : c = 32 ∨ c = 9 := by simpa [blank2] using h
  rcases this with rfl | rfl <;> decide
theorem line_ok {lead body : Str} {st col : Int} (h : LeadInv st lead col) (hl : lead.length ≤ 7) (hb : body ∈ bodiesL) : LineOk (lead ++ body) := by
  have h4 := bodies_len hb
  have each : ∀ c ∈ (lead ++ body).cps.toList, signOk c = true ∧ c ≠ 10 := fun c hc => by
    rw [toL_append] at hc
    exact (List.mem_append.mp hc).elim (fun q => blank_ok (h.all c q)) fun q => bodies_ok hb c q
  exact ⟨by rw [len_is, toL_append, List.length_append, ← len_is, ← len_is]; omega, fun c hc => (each c hc).1, fun hc => (each 10 hc).2 rfl⟩
structure RelInv (width : Int) (ys1 ys2 : List Str) : Prop where
  eq : ys2 = ys1.map (cleanF width)
  ok : ∀ y ∈ ys1, LineOk y
theorem RelInv.start {width : Int} : ([] : List Str).length ≤ ([] : List Int).length ∧ RelInv width [] [] := ⟨Nat.le_refl _, rfl, fun _ h => nomatch h⟩
theorem RelInv.step {width k : Int} {ys1 ys2 : List Str} {pre : List Int} {y z : Str} (h : RelInv width ys1 ys2) (hn : ys1.length ≤ pre.length) (hy : LineOk y) (hz : z = cleanF width y) : (ys1 ++ [y]).length ≤ (pre ++ [k]).length ∧ RelInv width (ys1 ++ [y]) (ys2 ++ [z]) := by
  refine ⟨by rw [len_snoc, List.length_append, List.length_singleton]; omega, by rw [List.map_append, ← h.eq, hz]; rfl, fun a ha => ?_⟩
  rcases List.mem_append.mp ha with q | q
  · exact h.ok a q
  · rw [List.mem_singleton.mp q]; exact hy
theorem sum_le {ys : List Str} {n : Nat} (h : ∀ y ∈ ys, y.length ≤ n) : (ys.map (·.length)).sum ≤ n * ys.length := by
  induction ys with
  | nil => simp
  | cons a r ih =>
    have h1 := h a (List.mem_cons_self ..)
    have h2 := ih fun y hy => h y (List.mem_cons_of_mem _ hy)
    rw [List.map_cons, List.sum_cons, List.length_cons, Nat.mul_succ]
    omega
theorem RelInv.sum1 {width : Int} {ys1 ys2 : List Str} (h : RelInv width ys1 ys2) (hn : ys1.length ≤ 7) : (ys1.map (·.length)).sum ≤ 77 := by
  have := sum_le fun y hy => (h.ok y hy).len
  omega
theorem RelInv.join1 {width : Int} {ys1 ys2 : List Str} (h : RelInv width ys1 ys2) (hn : ys1.length ≤ 7) : (ys1.map (·.length)).sum + ys1.length * (Str.ofString "\n").length ≤ 16777216 := by
  have h1 := h.sum1 hn
  have e : (Str.ofString "\n").length = 1 := by decide +kernel
  rw [e]; omega
theorem RelInv.join2 {width : Int} {ys1 ys2 : List Str} (h : RelInv width ys1 ys2) (hw : 0 ≤ width) (hn : ys1.length ≤ 7) : (ys2.map (·.length)).sum + ys2.length * (Str.ofString "\n").length ≤ 16777216 := by
  have h1 := h.sum1 hn
  have h2 := sum_clean hw ys1
  have e : (Str.ofString "\n").length = 1 := by decide +kernel
  rw [e, h.eq, List.length_map]; omega
theorem join_len (ys : List Str) : (Txt.join (Str.ofString "\n") ys).length ≤ (ys.map (·.length)).sum + ys.length := by
  show (Builtin.Str.glued _ _).length ≤ _
  rw [PySem.StrLaws.glued_eq_join]
  have h := PySem.StrLaws.join_length_le (Str.ofString "\n") ys
  have e : (Str.ofString "\n").length = 1 := by decide +kernel
  rw [e] at h; omega
theorem RelInv.short1 {width : Int} {ys1 ys2 : List Str} (h : RelInv width ys1 ys2) (hn : ys1.length ≤ 7) : (Txt.join (Str.ofString "\n") ys1).length ≤ 1000 := by
  have h1 := h.sum1 hn
  have h2 := join_len ys1
  omega
theorem RelInv.short2 {width : Int} {ys1 ys2 : List Str} (h : RelInv width ys1 ys2) (hw : 0 ≤ width) (hn : ys1.length ≤ 7) : (Txt.join (Str.ofString "\n") ys2).length ≤ 1000 := by
  have h1 := h.sum1 hn
  have h2 := sum_clean hw ys1
  have h3 := join_len ys2
  rw [h.eq, List.length_map] at h3
  rw [h.eq]
  omega
end Mine
namespace Mine
theorem cut_one : ∀ (a b X Y : List Nat), 10 ∉ a → 10 ∉ b → a ++ 10 :: X = b ++ 10 :: Y → a = b ∧ X = Y
  | [], [], _, _, _, _, h => ⟨rfl, (List.cons.inj h).2⟩
  | [], c :: b, _, _, _, hb, h => by
    have := (List.cons.inj h).1
    exact absurd (this ▸ List.mem_cons_self ..) hb
  | c :: a, [], _, _, ha, _, h => by
    have := (List.cons.inj h).1
    exact absurd (this ▸ List.mem_cons_self ..) ha
  | c :: a, d :: b, X, Y, ha, hb, h => by
    have h1 := (List.cons.inj h).1
    have h2 := cut_one a b X Y (fun m => ha (List.mem_cons_of_mem _ m)) (fun m => hb (List.mem_cons_of_mem _ m)) (List.cons.inj h).2
    exact ⟨by rw [h1, h2.1], h2.2⟩
abbrev nlS : Str := Str.mk #[10]
theorem join_two (x y : Str) (r : List Str) : (Str.join nlS (x :: y :: r)).cps.toList = x.cps.toList ++ 10 :: (Str.join nlS (y :: r)).cps.toList := by
  show (x ++ nlS ++ Str.join nlS (y :: r)).cps.toList = _
  rw [toL_append, toL_append, List.append_assoc]
  rfl
theorem join_uniq : ∀ (as bs : List Str), as ≠ [] → bs ≠ [] → (∀ a ∈ as, 10 ∉ a.cps.toList) → (∀ b ∈ bs, 10 ∉ b.cps.toList) → (Str.join nlS as).cps.toList = (Str.join nlS bs).cps.toList → as = bs
  | [], _, h, _, _, _, _ => absurd rfl h
  | _, [], _, h, _, _, _ => absurd rfl h
  | [a], [b], _, _, _, _, h => by rw [str_eq (x := a) (y := b) h]
  | [a], b :: b' :: r, _, _, ha, _, h => by
    rw [join_two] at h
    have e : a.cps.toList = b.cps.toList ++ 10 :: (Str.join nlS (b' :: r)).cps.toList := h
    exact absurd (by rw [e]; simp) (ha a (List.mem_cons_self ..))
  | a :: a' :: r, [b], _, _, _, hb, h => by
    rw [join_two] at h
    have e : a.cps.toList ++ 10 :: (Str.join nlS (a' :: r)).cps.toList = b.cps.toList := h
    exact absurd (by rw [← e]; simp) (hb b (List.mem_cons_self ..))
  | a :: a' :: r, b :: b' :: r', _, _, ha, hb, h => by
    rw [join_two, join_two] at h
    have h1 := cut_one _ _ _ _ (ha a (List.mem_cons_self ..)) (hb b (List.mem_cons_self ..)) h
    have h2 := join_uniq (a' :: r) (b' :: r') (by simp) (by simp) (fun z hz => ha z (List.mem_cons_of_mem _ hz)) (fun z hz => hb z (List.mem_cons_of_mem _ hz)) h1.2
    rw [h2, str_eq (x := a) (y := b) h1.1]
theorem split_ne (x y : Str) : Txt.split x y ≠ [] := by
  unfold Txt.split
  split
  · simp
  · split
    · simp
    · intro e
      have := congrArg List.length e
      rw [length_partsBetween] at this
      simp at this
theorem txt_join (ys : List Str) : Txt.join (Str.ofString "\n") ys = Str.join nlS ys := by
  show Builtin.Str.glued _ _ = _
  rw [PySem.StrLaws.glued_eq_join, nl_is]
theorem split_join {ys : List Str} (h : ∀ y ∈ ys, 10 ∉ y.cps.toList) (hn : ys ≠ []) : Txt.split (Txt.join (Str.ofString "\n") ys) (Str.ofString "\n") = ys := by
  rw [txt_join, nl_is]
  refine join_uniq _ _ (split_ne _ _) hn (fun z hz => PySem.StrLaws.split_free _ 10 z hz) h ?_
  rw [PySem.StrLaws.join_split]
theorem split_nil : Txt.split (Txt.join (Str.ofString "\n") []) (Str.ofString "\n") = [Str.mk #[]] := by decide +kernel
theorem clean_join {width : Int} {ys1 ys2 : List Str} (h : RelInv width ys1 ys2) : cleanS width (Txt.join (Str.ofString "\n") ys1) = Txt.join (Str.ofString "\n") ys2 := by
  unfold cleanS
  cases ys1 with
  | nil =>
    have e : ys2 = [] := h.eq
    rw [split_nil, e, txt_join, txt_join]
    refine str_eq ?_
    show (cleanL width []) = []
    unfold cleanL
    rw [if_neg (by simp [hasC])]
    rfl
  | cons y r => rw [split_join (fun z hz => (h.ok z hz).nl) (by simp), ← h.eq]
theorem expand_mem : ∀ (l : List Nat) (w : Nat), ∀ c ∈ expand l w, c = 32 ∨ c ∈ l
  | [], _, _, h => nomatch h
  | d :: r, w, c, h => by
    unfold expand at h
    split at h
    · rcases List.mem_cons.mp h with h | h
      · exact .inl h
      · exact (expand_mem r _ c h).imp id (List.mem_cons_of_mem _)
    · split at h
      · rcases List.mem_append.mp h with h | h
        · exact .inl (List.mem_replicate.mp h).2
        · exact (expand_mem r _ c h).imp id (List.mem_cons_of_mem _)
      · exact .inr h
theorem stripL_mem (cols : Int) : ∀ (l : List Nat) (w : Nat), ∀ c ∈ (stripL cols l w).1, c ∈ l
  | [], _, _, h => h
  | d :: r, w, c, h => by
    unfold stripL at h
    split at h
    · split at h
      · exact List.mem_cons_of_mem _ (stripL_mem cols r _ c h)
      · split at h
        · exact List.mem_cons_of_mem _ (stripL_mem cols r _ c h)
        · exact h
    · exact h
theorem cleanL_mem {cols : Int} {l : List Nat} {c : Nat} (h : c ∈ cleanL cols l) : c = 32 ∨ c ∈ l := by
  unfold cleanL at h
  split at h
  · unfold stripC at h
    split at h
    · cases h
    · rcases List.mem_append.mp h with h | h
      · exact .inl (List.mem_replicate.mp h).2
      · exact (expand_mem _ _ c h).imp id fun q => stripL_mem cols l 0 c q
  · exact expand_mem l 0 c h
theorem join_mem : ∀ (ys : List Str) (c : Nat), c ∈ (Str.join nlS ys).cps.toList → c = 10 ∨ ∃ y ∈ ys, c ∈ y.cps.toList
  | [], _, h => nomatch h
  | [y], c, h => .inr ⟨y, List.mem_cons_self .., h⟩
  | y :: z :: r, c, h => by
    rw [join_two] at h
    rcases List.mem_append.mp h with h | h
    · exact .inr ⟨y, List.mem_cons_self .., h⟩
    · rcases List.mem_cons.mp h with h | h
      · exact .inl h
      · exact (join_mem (z :: r) c h).imp id fun ⟨a, ha, hc⟩ => ⟨a, List.mem_cons_of_mem _ ha, hc⟩
theorem RelInv.signs {width : Int} {ys1 ys2 : List Str} (h : RelInv width ys1 ys2) : ∀ c ∈ (Txt.join (Str.ofString "\n") ys2).cps.toList, signOk c = true := by
  intro c hc
  rw [txt_join] at hc
  rcases join_mem _ c hc with rfl | ⟨y, hy, hc⟩
  · decide
  · rw [h.eq] at hy
    obtain ⟨z, hz, rfl⟩ := List.mem_map.mp hy
    have hc' : c ∈ cleanL width z.cps.toList := hc
    rcases cleanL_mem hc' with rfl | hm
    · decide
    · exact (h.ok z hz).ok c hm
structure FirstOk (first : Str) : Prop where
  len : first.length ≤ 1000
  ok : ∀ c ∈ first.cps.toList, signOk c = true
theorem first_nil : FirstOk (Str.ofString "") := ⟨by decide +kernel, fun c hc => by rw [em_is] at hc; cases hc⟩
theorem first_near {body : Str} (hb : body ∈ bodiesL) : FirstOk (body ++ Str.ofString "\n") := by
  have h := bodies_len hb
  refine ⟨?_, fun c hc => ?_⟩
  · rw [len_is, toL_append, nl_is, List.length_append, ← len_is]; simp; omega
  · rw [toL_append, nl_is] at hc
    rcases List.mem_append.mp hc with q | q
    · exact (bodies_ok hb c q).1
    · have : c = 10 := by simpa using q
      subst this; decide
theorem first_far {body : Str} {b : Int} (hb : body ∈ bodiesL) (h : b ≤ 28) : FirstOk (Txt.mul (Str.ofString " ") (b - 1) ++ body ++ Str.ofString "\n") := by
  have h4 := bodies_len hb
  refine ⟨?_, fun c hc => ?_⟩
  · rw [len_is, toL_append, toL_append, nl_is, mul_sp, List.length_append, List.length_append, List.length_replicate, ← len_is]; simp; omega
  · rw [toL_append, toL_append, nl_is, mul_sp] at hc
    rcases List.mem_append.mp hc with q | q
    · rcases List.mem_append.mp q with q | q
      · rw [(List.mem_replicate.mp q).2]; decide
      · exact (bodies_ok hb c q).1
    · have : c = 10 := by simpa using q
      subst this; decide
theorem whole_ok {first : Str} {width : Int} {ys1 ys2 : List Str} (hf : FirstOk first) (h : RelInv width ys1 ys2) : ∀ c ∈ (first ++ Txt.join (Str.ofString "\n") ys2).cps.toList, Unicode.isSpace c = blank3 c := by
  intro c hc
  rw [toL_append] at hc
  exact sign_space ((List.mem_append.mp hc).elim (hf.ok c) (h.signs c))
theorem whole_len {first : Str} {width : Int} {ys1 ys2 : List Str} (hf : FirstOk first) (h : RelInv width ys1 ys2) (hw : 0 ≤ width) (hn : ys1.length ≤ 7) : (first ++ Txt.join (Str.ofString "\n") ys2).length ≤ 100000 := by
  have h1 := hf.len
  have h2 := h.short2 hw hn
  rw [len_is, toL_append, List.length_append, ← len_is, ← len_is]; omega
theorem whole_fit {first : Str} {width : Int} {ys1 ys2 : List Str} (hf : FirstOk first) (h : RelInv width ys1 ys2) (hw : 0 ≤ width) (hn : ys1.length ≤ 7) : first.length + (Txt.join (Str.ofString "\n") ys2).length ≤ sizeLine := by
  have h1 := hf.len
  have h2 := h.short2 hw hn
  rw [sizeLine_eq]; omega
end Mine
namespace Mine
theorem fr_stays {h₀ h h' : Heap} {L : Addr} {m : Str → Option Value} (F : Fr h₀ L h m) (st : h.StaysIn h') : Fr h₀ L h' m := by
  obtain ⟨oL, es, ep, hL, hLd, hLk, hLf⟩ := F.ns
  exact ⟨⟨oL, es, ep, st _ _ hL, hLd, hLk, hLf⟩, fun b o e => st b o (F.keep b o e), F.above⟩
theorem news_stays {h₀ h h' : Heap} {L : Addr} {news : List (Addr × Obj)} {q : Addr × Obj} (N : News h₀ L h news) (st : h.StaysIn h') (N1 : News h₀ L h' [q]) : News h₀ L h' (q :: news) := fun p hp => by
  rcases List.mem_cons.mp hp with rfl | hp
  · exact N1 _ (List.mem_cons_self ..)
  · exact ⟨st _ _ (N p hp).1, (N p hp).2.1, (N p hp).2.2⟩
structure WidthIs (w : Int) : Prop where
  lo : 1 ≤ w
  hi : w ≤ 100
theorem sign_small {c : Nat} (h : signOk c = true) : c < 0x110000 := by
  have : ∀ d ∈ [32, 9, 10, 97, 98, 99, 100, 101, 104, 105], d < 0x110000 := by decide
  exact this c (List.contains_iff_mem.mp h)
theorem FirstOk.small {x : Str} (h : FirstOk x) : PyData.strOk x = true := by
  unfold PyData.strOk
  rw [Array.all_eq_true']
  intro c hc
  exact decide_eq_true (sign_small (h.ok c (Array.mem_toList_iff.mpr hc)))
theorem WidthIs.lo0 {w : Int} (h : WidthIs w) : 0 ≤ w := Int.le_trans (by decide) h.lo
theorem firstF_ok {b : Int} {body : Str} (hb : body ∈ bodiesL) (h : b ≤ 28) : FirstOk (firstF b body) := by
  unfold firstF
  split
  · exact first_nil
  · split
    · exact first_far hb h
    · exact first_near hb
theorem width_is {lw b : Int} {body : Str} (h0 : 1 ≤ lw) (hb : 0 ≤ b) (h : b ≤ 28) (h1 : lw ≤ 12) : WidthIs (widthF lw b body) := by
  unfold widthF
  split
  · exact ⟨by omega, by omega⟩
  · split <;> exact ⟨by omega, by omega⟩
theorem news_two {h₀ h : Heap} {L : Addr} {q r : Addr × Obj} {l : List (Addr × Obj)} (N : News h₀ L h (q :: r :: l)) : News h₀ L h [q, r] := fun p hp => N p (by
  rcases List.mem_cons.mp hp with rfl | hp
  · exact List.mem_cons_self ..
  · rw [List.mem_singleton.mp hp]; exact List.mem_cons_of_mem _ (List.mem_cons_self ..))
theorem two_in {q r : Addr × Obj} {l : List (Addr × Obj)} : ∀ p ∈ [q, r], p ∈ q :: r :: l := fun p hp => by
  rcases List.mem_cons.mp hp with rfl | hp
  · exact List.mem_cons_self ..
  · rw [List.mem_singleton.mp hp]; exact List.mem_cons_of_mem _ (List.mem_cons_self ..)
section
variable {prog : Program} {w : World} {A : Around} {E : Value → Shared → Prop} {s : Shared} {h₀ : Heap} {L : Addr} {m : Str → Option Value} {Q : Value → Shared → Prop}
theorem app_second {D Wa Ln : Addr} {oD oW : Obj} {its : Array Value} {n : Nat} {x : Value} {own : List (Addr × Obj)} (F : Fr h₀ L s.heap m) (N : News h₀ L s.heap ((D, oD) :: (Wa, oW) :: (Ln, W.listOf its n) :: own)) (hoff : OwnOff own [Wa, Ln]) (hlt : Ln < Wa) (hsz : its.size ≤ sizeLine)
    (h : ∀ h', Fr h₀ L h' m → News h₀ L h' ((Wa, oW) :: (Ln, W.listOf (its.push x) (n + 1)) :: own) → Q .none { s with heap := h' }) : wpAny (model prog w) A (call (.builtin "list.append") [.ref Ln, x]) Q E s :=
  append_K F (news_tl N) (.tail (Nat.ne_of_gt hlt) (.head fun p hp => hoff p hp Ln (by simp))) h hsz
theorem app_first {Wa Ln : Addr} {oL : Obj} {its : Array Value} {n : Nat} {x : Value} {own : List (Addr × Obj)} (F : Fr h₀ L s.heap m) (N : News h₀ L s.heap ((Wa, W.listOf its n) :: (Ln, oL) :: own)) (hoff : OwnOff own [Wa, Ln]) (hlt : Ln < Wa) (hsz : its.size ≤ sizeLine)
    (h : ∀ h', Fr h₀ L h' m → News h₀ L h' ((Wa, W.listOf (its.push x) (n + 1)) :: (Ln, oL) :: own) → Q .none { s with heap := h' }) : wpAny (model prog w) A (call (.builtin "list.append") [.ref Wa, x]) Q E s :=
  append_K F N (.head fun p hp => by
    rcases List.mem_cons.mp hp with e | hp
    · rw [e]; exact Nat.ne_of_lt hlt
    · exact hoff p hp Wa (by simp)) h hsz
end
section
variable {prog : Program} {w : World} {p : Program} {loose : List Str} {mean : ExcName → Option Value} {mg mb : Str → Option Value}
    {dp un : Nat} {gd : Option (List Code)} {cn : Str} {cs : Scope} {a : Addr} {ccd : Value} {cl : List (Str × Addr)} {outer : List Env} {A₀ : Around} {base h₀ : Heap} {L : Addr} {m : Str → Option Value} {news : List (Addr × Obj)} {s : Shared} {Q E : Value → Shared → Prop}
theorem line_use {nu : Int} {tn : Tok} {st : Int} {ts : Tok} {mo : Int} {tm : Tok} (h0 : 0 ≤ st) (h1 : st ≤ 100) (h2 : 0 ≤ mo) (h3 : mo ≤ 7)
    (B : Below A₀ base outer h₀) (F : Fr h₀ L s.heap m) (X : (hd.heap_39 w.params).In h₀) (N : News h₀ L s.heap news) (T : Top p loose mean mg mb h₀) (hk : cs.kind = .function) (hd : dp + 2 < recursionLimit) (hu : un + 16 < cLine)
    (ret : ∀ (lead : Str) (col : Int) (body : Str) (tl tc tb : Tok) (D : Addr) (h' : Heap) (tk' : Nat), LeadInv st lead col → lead.length ≤ 7 → body ∈ bodiesL → 0 ≤ col - st → col - st ≤ 28 → Fr h₀ L h' m → News h₀ L h' ((D, tupO [.str lead tl, .int (col - st) tc, .str body tb]) :: news) → Q (.ref D) { s with heap := h', toks := tk' }) :
    wpAny (model prog w) (ktrTop dp un gd cn cs L a ccd cl outer) (call (.ref 114) [.int nu tn, .int st ts, .int mo tm]) Q E s :=
  line_spec nu tn st ts mo tm h0 h1 h2 h3 dp un gd cn cs a ccd cl outer A₀ base h₀ L m s Q E B F X T hk hd hu fun lead col body tl tc tb D h' tk' e1 e2 e3 stay N1 => ret lead col body tl tc tb D h' tk' e1 e2 e3 (lead_col e1 h0 e2).1 (lead_col e1 h0 e2).2.1 (fr_stays F stay) (news_stays N stay N1)
theorem comp_use {lead body : Str} {lw col : Int} {tx tl : Tok} {first : Str} {width : Int} (hI : LeadInv lw lead col) (hl : lead.length ≤ 7) (hb : body ∈ bodiesL) (h0' : 1 ≤ lw) (h1 : lw ≤ 12) (e1 : firstF (col - lw) body = first) (e2 : widthF lw (col - lw) body = width)
    (B : Below A₀ base outer h₀) (F : Fr h₀ L s.heap m) (X : (hd.heap_39 w.params).In h₀) (N : News h₀ L s.heap news) (T : Top p loose mean mg mb h₀) (hk : cs.kind = .function) (hd : dp + 2 < recursionLimit) (hu : un + 16 < cLine)
    (ret : ∀ (t1 t2 : Tok) (D : Addr) (h' : Heap) (tk' : Nat), WidthIs width → FirstOk first → Fr h₀ L h' m → News h₀ L h' ((D, tupO [.str first t1, .int width t2]) :: news) → Q (.ref D) { s with heap := h', toks := tk' }) :
    wpAny (model prog w) (ktrTop dp un gd cn cs L a ccd cl outer) (call (.ref 57) [.str (lead ++ body) tx, .int lw tl]) Q E s := by
  subst e1; subst e2
  have h0 : 0 ≤ lw := Int.le_trans (by decide) h0'
  exact compile_spec lead body lw col tx tl hI hl hb h0 h1 dp un gd cn cs a ccd cl outer A₀ base h₀ L m s Q E B F X T hk hd hu fun t1 t2 D h' tk' stay N1 => ret t1 t2 D h' tk' (width_is h0' (lead_col hI h0 hl).1 (lead_col hI h0 hl).2.1 h1) (firstF_ok hb (lead_col hI h0 hl).2.1) (fr_stays F stay) (news_stays N stay N1)
end
theorem build_spec' {prog : Program} {w : World} {p : Program} {loose : List Str} {mean : ExcName → Option Value} {mg mb : Str → Option Value}
    (x : Str) (tx : Tok) (y : Str) (ty : Tok) (cols : Int) (tc : Tok) (hx : x.length ≤ 1000) (hy : y.length ≤ 1000) (h0 : 0 ≤ cols) {z : Str} (hz : cleanS cols y = z) : PCall prog w p loose mean mg mb 50 4 [.str x tx, .str y ty, .int cols tc] (fun t => .str ⟨(endS Unicode.isSpace (x ++ z).cps.toList).toArray⟩ t) := by
  subst hz
  exact build_spec x tx y ty cols tc hx hy h0
theorem ended_spec' {prog : Program} {w : World} {p : Program} {loose : List Str} {mean : ExcName → Option Value} {mg mb : Str → Option Value}
    (x : Str) (tx : Tok) (hx : x.length ≤ 100000) (hs : ∀ c ∈ x.cps.toList, Unicode.isSpace c = blank3 c) : PCall prog w p loose mean mg mb 121 1 [.str x tx] (fun t => .str ⟨(endS Unicode.isSpace x.cps.toList).toArray⟩ t) := by
  rw [endS_congr _ hs]
  exact ended_spec x tx hx
theorem mark_lo0 (x : Int) : 0 ≤ x.fmod 12 + 1 := by
  rw [Int.fmod_eq_emod_of_nonneg _ (by omega)]; omega
theorem mark_lo (x : Int) : 1 ≤ x.fmod 12 + 1 := by
  rw [Int.fmod_eq_emod_of_nonneg _ (by omega)]; omega
theorem mark_hi (x : Int) : x.fmod 12 + 1 ≤ 12 := by
  rw [Int.fmod_eq_emod_of_nonneg _ (by omega)]; omega
theorem mark_hi' (x : Int) : x.fmod 12 + 1 ≤ 100 := Int.le_trans (mark_hi x) (by decide)
theorem at_lo {k q : Int} {n : Nat} (hk : k = 0 + (n : Int)) (_ : n < (q.fmod 8 - 0).toNat) : 0 ≤ 3 + k := by omega
theorem at_hi {k q : Int} {n : Nat} (hk : k = 0 + (n : Int)) (hl : n < (q.fmod 8 - 0).toNat) : 3 + k ≤ 100 := by
  rw [Int.fmod_eq_emod_of_nonneg _ (by omega)] at hl; omega
theorem count_small (q : Int) : Builtin.Range.small 0 (q.fmod 8) 1 = true := by
  have e := Int.fmod_eq_emod_of_nonneg q (b := 8) (by omega)
  exact small_one (by omega) (by omega) (by omega) (by omega)
theorem over_seven {n : Nat} {q : Int} (h : n ≤ (rangeKs 0 (q.fmod 8 - 0).toNat).length) : n ≤ 7 := by
  rw [rangeKs_length, Int.fmod_eq_emod_of_nonneg _ (by omega)] at h; omega
theorem turn_seven {n j : Nat} {q : Int} (h : n ≤ j) (hl : j < (q.fmod 8 - 0).toNat) : n ≤ 7 := by
  rw [Int.fmod_eq_emod_of_nonneg _ (by omega)] at hl; omega
theorem rel_len2 {width : Int} {ys1 ys2 : List Str} (h : RelInv width ys1 ys2) : ys2.length = ys1.length := by rw [h.eq, List.length_map]
theorem push_fit1 {vs : List Value} {ys : List Str} {j : Nat} {q : Int} (hs : StrsAre vs ys) (h : ys.length ≤ j) (hl : j < (q.fmod 8 - 0).toNat) : vs.toArray.size ≤ sizeLine := by
  have := turn_seven h hl
  have e := hs.length
  rw [List.size_toArray, sizeLine_eq]; omega
theorem push_fit2 {vs : List Value} {ys ys1 : List Str} {width : Int} {j : Nat} {q : Int} (hs : StrsAre vs ys) (hr : RelInv width ys1 ys) (h : ys1.length ≤ j) (hl : j < (q.fmod 8 - 0).toNat) : vs.toArray.size ≤ sizeLine :=
  push_fit1 hs (by rw [rel_len2 hr]; exact h) hl
theorem rel_start {width : Int} (_ : WidthIs width) : ([] : List Str).length ≤ ([] : List Int).length ∧ RelInv width [] [] := RelInv.start
theorem fit_lead {lead body : Str} (hl : lead.length ≤ 7) (hb : body ∈ bodiesL) : lead.length + body.length ≤ sizeLine := by
  have := bodies_len hb
  rw [sizeLine_eq]; omega
theorem fit_mul {b : Int} {body : Str} (h : b ≤ 28) (hb : body ∈ bodiesL) : (Txt.mul (Str.ofString " ") b).length + body.length ≤ sizeLine := by
  have := bodies_len hb
  rw [len_is (Txt.mul _ _), mul_sp, List.length_replicate, sizeLine_eq]; omega
theorem fit_mul1 {b : Int} {body : Str} (h : b ≤ 28) (hb : body ∈ bodiesL) : (Txt.mul (Str.ofString " ") (b - 1)).length + body.length ≤ sizeLine := fit_mul (by omega) hb
theorem fit_mulw {b width : Int} {body : Str} (hw : WidthIs width) (h : b ≤ 28) (hb : body ∈ bodiesL) : (Txt.mul (Str.ofString " ") (b - width)).length + body.length ≤ sizeLine := fit_mul (by have := hw.lo; omega) hb
theorem fit_nl {x : Str} (h : x.length ≤ 1000) : x.length + (Str.ofString "\n").length ≤ sizeLine := by
  have e : (Str.ofString "\n").length = 1 := by decide +kernel
  rw [e, sizeLine_eq]; omega
theorem fit_mul_nl {b : Int} {body : Str} (h : b ≤ 28) (hb : body ∈ bodiesL) : (Txt.mul (Str.ofString " ") (b - 1) ++ body).length + (Str.ofString "\n").length ≤ sizeLine := by
  refine fit_nl ?_
  have := bodies_len hb
  rw [len_is, toL_append, mul_sp, List.length_append, List.length_replicate, ← len_is]; omega
theorem fit_body_nl {body : Str} (hb : body ∈ bodiesL) : body.length + (Str.ofString "\n").length ≤ sizeLine := fit_nl (Nat.le_trans (bodies_len hb) (by decide))
theorem beq_nil {lead : Str} (h : (lead != Str.ofString "") = false) : lead = Str.ofString "" := by simpa [bne] using h
theorem len63 {ns : List Int} (h : ¬ ((63 : Nat) : Int) < (ns.length : Int)) : ns.length ≤ 63 := by omega
theorem eq_nil {body : Str} (h : (body == Str.ofString "") = true) : body.length = 0 := by
  rw [eq_of_beq h, em_is]; rfl
theorem ne_nil {body : Str} (h : (body == Str.ofString "") = false) : body.length ≠ 0 := by
  intro e
  have : body = Str.ofString "" := by
    rw [em_is]
    refine str_eq ?_
    rw [len_is] at e
    rw [List.eq_nil_of_length_eq_zero e]
  rw [this] at h
  simp at h
theorem f_nil {b : Int} {body : Str} (h : (body == Str.ofString "") = true) : firstF b body = Str.ofString "" := by unfold firstF; rw [if_pos (eq_nil h)]
theorem w_nil {lw b : Int} {body : Str} (h : (body == Str.ofString "") = true) : widthF lw b body = lw + 1 := by unfold widthF; rw [if_pos (eq_nil h)]
theorem f_far {b : Int} {body : Str} (h : (body == Str.ofString "") = false) (h5 : 5 ≤ b) : firstF b body = Txt.mul (Str.ofString " ") (b - 1) ++ body ++ Str.ofString "\n" := by unfold firstF; rw [if_neg (ne_nil h), if_pos h5]
theorem w_far {lw b : Int} {body : Str} (h : (body == Str.ofString "") = false) (h5 : 5 ≤ b) : widthF lw b body = lw + 1 := by unfold widthF; rw [if_neg (ne_nil h), if_pos h5]
theorem f_near {b : Int} {body : Str} (h : (body == Str.ofString "") = false) (h5 : ¬ 5 ≤ b) : firstF b body = body ++ Str.ofString "\n" := by unfold firstF; rw [if_neg (ne_nil h), if_neg h5]
theorem w_near {lw b : Int} {body : Str} (h : (body == Str.ofString "") = false) (h5 : ¬ 5 ≤ b) : widthF lw b body = lw + b := by unfold widthF; rw [if_neg (ne_nil h), if_neg h5]
abbrev LSt := List Value × List Str × Nat × List Value × List Str × Nat
abbrev LLed (Wa Ln : Addr) (c : LSt) : List (Addr × Obj) := [(Wa, W.listOf c.1.toArray c.2.2.1), (Ln, W.listOf c.2.2.2.1.toArray c.2.2.2.2.2)]
abbrev LFac (c : LSt) : Prop := StrsAre c.1 c.2.1 ∧ StrsAre c.2.2.2.1 c.2.2.2.2.1
abbrev LPre (width : Int) (pre : List Int) (c : LSt) : Prop := c.2.2.2.2.1.length ≤ pre.length ∧ RelInv width c.2.2.2.2.1 c.2.1
abbrev LOwn : List Str := [Str.ofString "head", Str.ofString "column", Str.ofString "tail"]
section
variable {prog : Program} {w : World} {A : Around} {E : Value → Shared → Prop} {s : Shared} {env : Env} {h₀ : Heap} {x : Str} {body : List Stmt} {Q : Flow → Shared → Prop}
theorem law_for {r : Addr} {q : Int} {t₀ u₀ v₀ : Tok} {m₀ : Str → Option Value} {Wa Ln : Addr} {width : Int} (_ : WidthIs width)
    (hh : A.handled = none) (hr : IsRange s.heap r 0 (q.fmod 8) 1 t₀ u₀ v₀) (F : Fr h₀ env.locals s.heap m₀) (N : News h₀ env.locals s.heap [(Wa, W.listOf #[] 0), (Ln, W.listOf #[] 0)])
    (turn : ∀ (vs2 : List Value) (ys2 : List Str) (n2 : Nat) (vs1 : List Value) (ys1 : List Str) (n1 : Nat) (pre : List Int) (k : Int) (t : Tok) (u : Str → Option Value) (h : Heap) (tk : Nat) (own : List (Addr × Obj)), k = 0 + (pre.length : Int) → pre.length < (q.fmod 8 - 0).toNat → OwnOff own [Wa, Ln] → StrsAre vs2 ys2 → StrsAre vs1 ys1 → ys1.length ≤ pre.length → RelInv width ys1 ys2 →
      Fr h₀ env.locals h (fun y => if y = x then some (.int k t) else if LOwn.contains y then u y else m₀ y) → News h₀ env.locals h ((Wa, W.listOf vs2.toArray n2) :: (Ln, W.listOf vs1.toArray n1) :: own) →
      wpAny (model prog w) A (execs body env) (InvPostN h₀ env.locals (KstS (LLed Wa Ln) (fun _ => []) LFac x LOwn m₀ (LPre width) (pre ++ [k])) own [Wa, Ln] { s with heap := h, toks := tk } Q) E { s with heap := h, toks := tk })
    (done : ∀ (vs2 : List Value) (ys2 : List Str) (n2 : Nat) (vs1 : List Value) (ys1 : List Str) (n1 : Nat) (u : Str → Option Value) (h : Heap) (tk : Nat), StrsAre vs2 ys2 → StrsAre vs1 ys1 → ys1.length ≤ 7 → RelInv width ys1 ys2 → Fr h₀ env.locals h (fun y => if y = x then u y else if LOwn.contains y then u y else m₀ y) →
      News h₀ env.locals h [(Wa, W.listOf vs2.toArray n2), (Ln, W.listOf vs1.toArray n1)] → Q .next { s with heap := h, toks := tk }) :
    wpAny (model prog w) A (pyIter (.ref r)) (fun it s₂ => LoopAtV prog w A h₀ env x body Q E it s₂) E s :=
  kst_range (LLed Wa Ln) (fun _ => []) LFac LOwn (LPre width) ([], [], 0, [], [], 0) hh hr (count_small _) (rangeSize_nat _ _) F N ⟨StrsAre.nil, StrsAre.nil⟩ (fun _ h => nomatch h) RelInv.start
    (fun ⟨vs2, ys2, n2, vs1, ys1, n1⟩ pre k t u h tk own e1 e2 e3 f p F' N' => turn vs2 ys2 n2 vs1 ys1 n1 pre k t u h tk own e1 e2 e3 f.1 f.2 p.1 p.2 F' N')
    (fun ⟨vs2, ys2, n2, vs1, ys1, n1⟩ u h tk f p F' N' => done vs2 ys2 n2 vs1 ys1 n1 u h tk f.1 f.2 (over_seven p.1) p.2 F' N')
theorem law_end {L : Addr} {m₀ m' : Str → Option Value} {Wa Ln : Addr} {width k : Int} {pre : List Int} {own : List (Addr × Obj)} {vs2 vs1 : List Value} {ys2 ys1 : List Str} {n2 n1 : Nat} {z y : Str} {t2 t1 : Tok} {s₁ : Shared} {h' : Heap} {tk : Nat}
    (hs2 : StrsAre vs2 ys2) (hs1 : StrsAre vs1 ys1) (hn : ys1.length ≤ pre.length) (hI : RelInv width ys1 ys2) (F : Fr h₀ L h' m')
    (N : News h₀ L h' ((Wa, W.listOf (vs2 ++ [Value.str z t2]).toArray n2) :: (Ln, W.listOf (vs1 ++ [Value.str y t1]).toArray n1) :: own)) (hy : LineOk y) (hz : z = cleanF width y)
    (hr : ∀ c, c ≠ x → (∀ p ∈ ([] : List (Str × Value)), c ≠ p.1) → LOwn.contains c = false → m' c = m₀ c) :
    InvEndN h₀ L (KstS (LLed Wa Ln) (fun _ => []) LFac x LOwn m₀ (LPre width) (pre ++ [k])) own [Wa, Ln] s₁ { s₁ with heap := h', toks := tk } :=
  kst_end (σ := LSt) (Led := LLed Wa Ln) (ps := fun _ => []) (Facts := LFac) (P := LPre width) (vs2 ++ [Value.str z t2], ys2 ++ [z], n2, vs1 ++ [Value.str y t1], ys1 ++ [y], n1) F N two_in (fun _ hp => List.mem_cons_of_mem _ (List.mem_cons_of_mem _ hp)) rfl
    ⟨StrsAre.append' hs2 (.cons _ _ .nil), StrsAre.append' hs1 (.cons _ _ .nil)⟩ (fun _ h => nomatch h) hr (RelInv.step hI hn hy hz)
theorem ne_same {L : Addr} {news : List (Addr × Obj)} {R : Value → Shared → Prop} {a b : Addr} {oa ob : Obj} {z : Str} {y : Int} {t1 t2 : Tok} {u1 u2 : Tok} {n1 n2 : Nat} (N : News h₀ L s.heap news) (ha : (a, oa) ∈ news) (hb : (b, ob) ∈ news) (ca : oa.cls = .type "tuple") (cb : ob.cls = .type "tuple")
    (da : oa.data = .seq #[Value.str z t1, Value.int y u1] n1) (db : ob.data = .seq #[Value.str z t2, Value.int y u2] n2) (hu : A.units + 64 < cLine) (hz : FirstOk z) (h : R (.bool false) s) : wpAny (model prog w) A (compareOp .NotEq (.ref a) (.ref b)) R E s :=
  ne_dataH (reads_tuple_at (News.get N ha) ca da (ReadsAll.cons (Reads.str _ _) (ReadsAll.cons (Reads.int _ _) ReadsAll.nil))) (reads_tuple_at (News.get N hb) cb db (ReadsAll.cons (Reads.str _ _) (ReadsAll.cons (Reads.int _ _) ReadsAll.nil))) (by simp [SeqAt.shaped, PyData.canLay0, PyData.canLayAll0, PyData.depth, PyData.depthAll, hz.small]) (by simp [SeqAt.shaped, PyData.canLay0, PyData.canLayAll0, PyData.depth, PyData.depthAll, hz.small]) hu (by
    simp only [PyData.eqv, PyData.eqvAll, beq_self_eq_true, Bool.and_true, Bool.not_true]; exact h)
end
end Mine
namespace Mine
local macro_rules | `(tactic| walk_at "mine enter") => `(tactic| (refine' code_pure ?k1 ?k2 ?k3 ?k5 ?kA ?kF ?kK ?k6 ?k7 ?k8 ?k9 ?kB ?_ ?c2 ?c3 ?c4 ?c5; (case kA => exact rfl); (case kF => exact rfl); (case kK => assumption); (case k1 => k_asm); (case k2 => k_asm); (case k3 => k_asm); (case k5 => k_asm); (case k6 => k_is); (case k7 => k_is); (case k8 => ktr_room); (case k9 => first | exact BindsTo.of_eq rfl | exact binds_K (by k_in) rfl (by k_is) rfl rfl rfl | fail "enter: no rule for these arguments"); (case c5 => decide); (case kB => exact locs rfl); (case c2 => exact rfl); (case c3 => exact rfl); (case c4 => exact rfl); k_whole; intro g' L' h' hg' FG' F' N' B' X' T'; (try dsimp only); (try k_lift B'); (try k_fold)))
local macro_rules | `(tactic| walk_at "mine same") => `(tactic| (intro z h2 h3; (simp only [List.forall_mem_cons, List.not_mem_nil, false_implies, implies_true, and_true, ne_eq] at h2); (try simp only [List.contains_cons, List.contains_nil, Bool.or_false, Bool.or_eq_false_iff, beq_eq_false_iff_ne, ne_eq] at h3); (first | simp only [kstB, h2, h3, if_false, List.contains_cons, List.contains_nil, Bool.or_false, beq_iff_eq, Bool.or_eq_true, or_self, false_or, Bool.false_eq_true, decide_false, Bool.or_self] | simp only [kstB, h2, if_false, List.contains_cons, List.contains_nil, Bool.or_false, beq_iff_eq, Bool.or_eq_true, or_self, false_or, Bool.false_eq_true, decide_false, Bool.or_self])))
local macro_rules | `(tactic| walk_at "KswEnd") => `(tactic| k_dflt (k_extra "kend"))
local macro_rules | `(tactic| walk_at "call builtin:str.join") => `(tactic| (k_here; (with_reducible show wpAny _ _ (call (Value.builtin "str.join") [Value.str _ _, Value.ref _]) _ _ _); k_dflt (refine' join_list ?l ?i ?o ?_; (case l => exact News.isList (by k_asm) (by k_mem)); (case i => assumption); (case o => k_extra "join")); intro _ _))
local macro_rules | `(tactic| walk_at "binaryOp Add str str") => `(tactic| (k_here; (with_reducible show wpAny _ _ (binaryOp Operator.Add (Value.str _ _) (Value.str _ _)) _ _ _); (refine SBL.add (hsz := ?hsz) ?_); (case hsz => k_extra "fit"); intro _ _ _))
local macro_rules | `(tactic| walk_at "exec While BoolOp cons nil") => `(tactic| k_dflt (k_extra "my while"))
local macro_rules | `(tactic| walk_at "exec While Compare cons nil") => `(tactic| k_dflt (k_extra "my while"))
local macro_rules | `(tactic| walk_at "mine call") => `(tactic| ((case k1 => k_asm); (case k2 => k_asm); (case k3 => k_asm); (case k4 => k_asm); (case k5 => k_asm); (case kK => first | exact rfl | assumption); (case kd => ktr_room); (case ku => ktr_units); intro t9 h9 tk9 F9 N9; (try dsimp only); (try k_fold)))
local macro_rules | `(tactic| walk_at "pyIter ref") => `(tactic| k_dflt (k_extra "my for"))
local macro_rules | `(tactic| walk_at "InvEndN") => `(tactic| k_dflt (k_extra "fend"))
local macro_rules | `(tactic| walk_at "mine for same") => `(tactic| (intro z h1 h2 h3; (try simp only [List.forall_mem_cons, List.not_mem_nil, false_implies, implies_true, and_true, ne_eq] at h2); (try simp only [List.contains_cons, List.contains_nil, Bool.or_false, Bool.or_eq_false_iff, beq_eq_false_iff_ne, ne_eq] at h3); (first | simp only [kstB, h1, h2, h3, if_false, List.contains_cons, List.contains_nil, Bool.or_false, beq_iff_eq, Bool.or_eq_true, or_self, false_or, Bool.false_eq_true, decide_false, Bool.or_self] | simp only [kstB, h1, h2, if_false, List.contains_cons, List.contains_nil, Bool.or_false, beq_iff_eq, Bool.or_eq_true, or_self, false_or, Bool.false_eq_true, decide_false, Bool.or_self] | simp only [kstB, h1, h3, if_false, List.contains_cons, List.contains_nil, Bool.or_false, beq_iff_eq, Bool.or_eq_true, or_self, false_or, Bool.false_eq_true, decide_false, Bool.or_self] | simp only [kstB, h1, if_false, List.contains_cons, List.contains_nil, Bool.or_false, beq_iff_eq, Bool.or_eq_true, or_self, false_or, Bool.false_eq_true, decide_false, Bool.or_self])))
local macro_rules | `(tactic| walk_at "mine enterN") => `(tactic| (refine' code_def ?k1 ?k2 ?k3 ?k4 ?k5 ?kA ?kF ?kK ?k6 ?k7 ?k8 ?k9 ?kB ?_ ?c2 ?c3 ?c4 ?c5; (case kA => exact rfl); (case kF => exact rfl); (case kK => first | exact rfl | assumption); (case k1 => k_asm); (case k2 => k_asm); (case k3 => k_asm); (case k4 => k_asm); (case k5 => k_asm); (case k6 => k_is); (case k7 => k_is); (case k8 => ktr_room); (case k9 => exact BindsTo.of_eq rfl); (case c5 => decide); (case kB => exact locs rfl); (case c2 => exact rfl); (case c3 => exact rfl); (case c4 => exact rfl); k_whole; intro g' L' h' FG' F' N' B' X' T'; (try dsimp only); (try k_lift B'); (try k_fold)))
local macro_rules | `(tactic| walk_at "inplaceOp Add str str") => `(tactic| (k_here; (with_reducible show wpAny _ _ (inplaceOp Operator.Add (Value.str _ _) (Value.str _ _)) _ _ _); (refine SBL.iadd (hsz := ?hsz) ?_); (case hsz => k_extra "fit"); intro _ _ _))
local macro_rules | `(tactic| walk_at "call type:range") => `(tactic| (k_dflt ((rename Fr _ _ _ _ => F'); (rename News _ _ _ _ => N'); (with_unfolding_all refine range1_rows F' N' ?_); intro _ _ _ _ _ _ _ _ _)))
local macro_rules | `(tactic| walk_at "call ref") => `(tactic| (k_here; (with_reducible show wpAny _ _ (call (Value.ref 107) _) _ _ _); k_dflt (refine' pcall_useB (at_spec _ _ _ _ _ ?hi ?hl ?h0 ?h1) ?hP ?k1 ?k2 ?k3 ?k4 ?k5 ?kK ?kd ?ku ?_; (case hi => assumption); (case hP => assumption); (case hl => assumption); (case h0 => first | decide | exact at_lo (by assumption) (by assumption)); (case h1 => first | decide | exact at_hi (by assumption) (by assumption)); walk_at "mine call")))
local macro_rules | `(tactic| walk_at "call ref") => `(tactic| (k_here; (with_reducible show wpAny _ _ (call (Value.ref 114) _) _ _ _); k_dflt (refine' line_use ?h0 ?h1 ?h2 ?h3 ?k1 ?k2 ?k3 ?k4 ?k5 ?kK ?kd ?ku ?_; (case h0 => first | decide | exact mark_lo0 _); (case h1 => first | decide | exact mark_hi' _); (case h2 => decide); (case h3 => decide); (case k1 => k_asm); (case k2 => k_asm); (case k3 => k_asm); (case k4 => k_asm); (case k5 => k_asm); (case kK => first | exact rfl | assumption); (case kd => ktr_room); (case ku => ktr_units); intro lead9 col9 body9 tl9 tc9 tb9 D9 h9 tk9 hI9 hl9 hb9 hlo9 hhi9 F9 N9; (try dsimp only); (try k_fold))))
local macro_rules | `(tactic| walk_at "call ref") => `(tactic| (k_here; (with_reducible show wpAny _ _ (call (Value.ref 57) _) _ _ _); k_dflt (refine' comp_use ?hI ?hl ?hb ?h0 ?h1 ?e1 ?e2 ?k1 ?k2 ?k3 ?k4 ?k5 ?kK ?kd ?ku ?_; (case hI => assumption); (case hl => assumption); (case hb => assumption); (case h0 => exact mark_lo _); (case h1 => exact mark_hi _); (case e1 => first | exact f_nil (by assumption) | exact f_far (by assumption) (by assumption) | exact f_near (by assumption) (by assumption)); (case e2 => first | exact w_nil (by assumption) | exact w_far (by assumption) (by assumption) | exact w_near (by assumption) (by assumption)); (case k1 => k_asm); (case k2 => k_asm); (case k3 => k_asm); (case k4 => k_asm); (case k5 => k_asm); (case kK => first | exact rfl | assumption); (case kd => ktr_room); (case ku => ktr_units); intro t9 u9 D9 h9 tk9 hW9 hF9 F9 N9; (try dsimp only); (try k_fold))))
local macro_rules | `(tactic| walk_at "call ref") => `(tactic| (k_here; (with_reducible show wpAny _ _ (call (Value.ref 50) _) _ _ _); k_dflt (refine' pcall_use (build_spec' _ _ _ _ _ _ ?hx ?hy ?h0 ?hz) ?k1 ?k2 ?k3 ?k4 ?k5 ?kK ?kd ?ku ?_; (case hx => exact FirstOk.len (by assumption)); (case hy => exact RelInv.short1 (by assumption) (by assumption)); (case h0 => exact WidthIs.lo0 (by assumption)); (case hz => exact clean_join (by assumption)); walk_at "mine call")))
local macro_rules | `(tactic| walk_at "call ref") => `(tactic| (k_here; (with_reducible show wpAny _ _ (call (Value.ref 121) _) _ _ _); k_dflt (refine' pcall_use (ended_spec' _ _ ?hx ?hs) ?k1 ?k2 ?k3 ?k4 ?k5 ?kK ?kd ?ku ?_; (case hs => exact whole_ok (by assumption) (by assumption)); (case hx => exact whole_len (by assumption) (by assumption) (WidthIs.lo0 (by assumption)) (by assumption)); walk_at "mine call")))
local macro_rules | `(tactic| walk_at "call builtin:list.append") => `(tactic| (k_here; (with_reducible show wpAny _ _ (call (Value.builtin _) [Value.ref _, _]) _ _ _); k_dflt (first
  | (refine' app_second ?k1 ?k2 ?k3 ?k4 ?z ?_; (case k1 => k_asm); (case k2 => k_asm); (case k3 => assumption); (case k4 => first | assumption | exact And.left (by assumption)); (case z => exact push_fit1 (by assumption) (by assumption) (by assumption)))
  | (refine' app_first ?k1 ?k2 ?k3 ?k4 ?z ?_; (case k1 => k_asm); (case k2 => k_asm); (case k3 => assumption); (case k4 => first | assumption | exact And.left (by assumption)); (case z => exact push_fit2 (by assumption) (by assumption) (by assumption) (by assumption)))); intro h' F' N'; (try simp only [List.push_toArray] at N')))
local macro_rules | `(tactic| walk_at "compareOp NotEq ref ref") => `(tactic| (k_here; (with_reducible show wpAny _ _ (compareOp CmpOp.NotEq (Value.ref _) (Value.ref _)) _ _ _); k_dflt (refine' ne_same ?kN ?ka ?kb ?ca ?cb ?da ?db ?ku ?kz ?_; (case kN => k_asm); (case ka => k_mem); (case kb => k_mem); (case ca => exact rfl); (case cb => exact rfl); (case da => exact rfl); (case db => exact rfl); (case kz => assumption); (case ku => first | units_room | exact Nat.le_of_ble_eq_true rfl))))
set_option maxHeartbeats 16000000 in
theorem law_all : PySem.Challenge.rw_ba0040_01.Holds := hd (by
  (k_with_none)
  w_top off
  k_go0
  all_goals have h63 := len63 (by assumption)
  (k_with_none)
  (k_with "fit" => first | exact fit_lead (by assumption) (by assumption) | exact fit_mul1 (by assumption) (by assumption) | exact fit_mul_nl (by assumption) (by assumption) | exact fit_body_nl (by assumption) | exact fit_mulw (by assumption) (by assumption) (by assumption) | exact fit_mul (by assumption) (by assumption) | exact whole_fit (by assumption) (by assumption) (WidthIs.lo0 (by assumption)) (by assumption))
  (k_with "join" => first | exact RelInv.join1 (by assumption) (by assumption) | exact RelInv.join2 (by assumption) (WidthIs.lo0 (by assumption)) (by assumption))
  (k_with "fend" => (
    (with_reducible rename Fr _ _ _ _ => nF');
    (with_reducible rename News _ _ _ _ => nE');
    (refine' law_end kS2 kS1 p1 kInv nF' nE' ?ky ?kz ?ks);
    (case ky => exact line_ok (by assumption) (by assumption) (by assumption));
    (case kz => first
      | with_reducible exact clean_far (by assumption) (by assumption) (WidthIs.lo (by assumption)) (by assumption)
      | with_reducible exact clean_near (by assumption) (by assumption) (WidthIs.lo (by assumption)) (by assumption)
      | with_reducible exact clean_none (by assumption) (by assumption) (WidthIs.lo (by assumption)) (beq_nil (by assumption))
);
    (case ks => walk_at "mine for same");
    ))
  (k_with "my for" => (
    (with_reducible rename WidthIs _ => kW);
    (with_reducible rename Fr _ _ _ _ => lF');
    (with_reducible rename News _ _ _ _ => lN');
    (with_reducible rename IsRange _ _ _ _ _ _ _ _ => rgX);
    (have lN2 := news_two lN');
    (refine' law_for kW (by rfl) rgX lF' lN2 ?_ ?_);
    (all_goals (clear lF' lN' lN2 rgX));
    (all_goals first | intro vs2 ys2 n2 vs1 ys1 n1 pre k t kU kH kTk own hk1 hk2 kOff kS2 kS1 p1 kInv kFr kNews | intro vs2 ys2 n2 vs1 ys1 n1 kU kH kTk kS2 kS1 p1 kInv kFr kNews);
    (all_goals (try k_fold))))
  all_goals try k_fold
  k_steps)
end Mine
theorem PySem.Challenge.cw_ba0040_01_holds : PySem.Challenge.rw_ba0040_01.Holds :=
  Mine.law_all
