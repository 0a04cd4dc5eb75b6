import PyProof.Rows.All
import Wide.All
import OpenK.AllK
import Wide.FinOn
import KE.KSortKey
import KE.KSortAsk
import Lean
import PySem.Challenge.RW_qw0044_01
set_option Elab.async false
set_option compiler.extract_closed false
set_option genInjectivity false
set_option genSizeOf false
/-! part TopS -/
section
open PySem PySem.W PyProof.Rows
set_option maxRecDepth 100000
set_option maxHeartbeats 8000000
namespace Mine
local macro_rules | `(tactic| o_head $_) => `(tactic| skip)
theorem hd (h : False) : PySem.Challenge.rw_qw0044_01.Holds := by
  refine holds_law (h.elim) fun said => ?_
  k_head
  exact h.elim
end Mine
end

/-! part TopW -/
section
open PySem PySem.W PyProof.Rows
set_option maxRecDepth 100000
set_option maxHeartbeats 8000000
namespace Mine
def bEntries (P : Params) : Array DictEntry := ((Manifest.builtinsNames.zipIdx 1).map fun x => (⟨PyData.keyHash P x.1.1, .str x.1.1 x.2, if x.1.1 == ("__name__" : Str) then .str "builtins" 160 else builtinAtStartup x.1.1 x.1.2⟩ : DictEntry)).toArray
noncomputable def Kbig (P : Params) : Frag := (0, ⟨.type "dict", none, .dict (bEntries P) 159, #[]⟩) :: (1, ⟨.type "dict", none, .dict #[⟨PyData.keyHash P "builtins", .str "builtins" 162, .ref 4⟩, ⟨PyData.keyHash P "__main__", .str "__main__" 163, .ref 5⟩] 2, #[]⟩) :: (4, ⟨.type "module", some 0, .plain, #[]⟩) :: hd.heap_1 P
def asBig : List Addr := [0, 1, 4, 2, 3, 15, 17, 18, 20, 21, 22, 25, 30, 31, 32, 34, 35, 37, 38, 39, 41, 42, 44, 45, 46, 47, 49, 50, 52, 53, 54,
          55, 57, 58, 60, 61, 62, 64, 65, 67, 68, 69, 71, 72, 74, 75, 76, 77, 79, 80, 82, 83, 84, 86, 87, 89, 90, 91,
          92, 94, 95, 97, 98, 99, 100, 101, 102, 103, 106, 108, 109, 111, 112, 113, 114, 115, 117, 118, 120, 121, 122,
          124, 125, 127, 128, 129, 136, 138, 139, 141, 142, 143, 144, 145, 148, 155, 157, 158, 160, 161, 162, 164, 165,
          167, 168, 169, 171, 172, 174, 175, 176, 177, 178, 181, 183, 184, 186, 187, 188, 190, 191, 193, 194, 195, 197,
          198, 200, 201, 202, 204, 205, 207, 208, 209, 211, 212, 214, 215, 216, 219, 220, 221, 224, 225, 226, 229, 230]

def kept : List Nat := [0, 2, 3, 5, 6, 9, 11, 13, 14, 16, 18, 20, 21, 22, 24, 25]
noncomputable def view : Program := { PySem.Challenge.rw_qw0044_01.row.toRowW.prog with main := { PySem.Challenge.rw_qw0044_01.row.toRowW.prog.main with body := (PySem.Challenge.rw_qw0044_01.row.toRowW.prog.main.body.zipIdx.filter fun x => kept.contains x.2).map (·.1) } }
def looseN : List Str := [Str.ofString "_Accumulator", Str.ofString "_initial_missing", Str.ofString "reduce"]
noncomputable def H : Hook := kmHook Mine.Kbig Mine.asBig (fun _ => by kernel_rfl) [107, 227, 70]
theorem left_ok : LeftO PySem.Challenge.rw_qw0044_01.row.toRowW.prog view looseN (fun s => xlAt view [] s && recOk (RowW.records PySem.Challenge.rw_qw0044_01.row.toRowW) s) (Hook.obs H) (Hook.val H) 3124 := fun w => by kernel_rfl
end Mine
end

section
open PySem PySem.W PyProof.Rows
namespace Mine
local macro_rules | `(tactic| walk_at "no goal") => `(tactic| skip)
theorem freshE0 : True ∧ True := by
  k_with_none
  w_top off
  first | (walk1; done) | exact ⟨trivial, trivial⟩
end Mine
end

/-! part E0 -/
section
open PySem PySem.W PyProof.Rows
set_option maxRecDepth 100000
set_option maxHeartbeats 8000000
namespace Mine
/-- what the law's call must end in -/
def Done (s₁ : Shared) (tabs : List (Addr × Addr)) (r : Result) (s' : Shared) : Prop :=
  r = .ok (.ret (.bool true)) ∧ (∀ b o, (ghostOf s₁.heap tabs).get? b = some o → s'.heap.get? b = some o) ∧ s'.os = s₁.os ∧ AllBare s'.gens ∧ GrownAll tabs s'.heap
theorem my_post {M : Model} {A : Around} {cd : Code} {s s₁ : Shared} {cw : ClaimW} {cl : Str → Option Addr} {mean : ExcName → Option Value} {args : List WData} {tabs : List (Addr × Addr)} (hT : TabsAt tabs s₁.heap)
    (hr : ∀ x, cw.raises args x = false) (hp : cw.post args (.bool true) args = true) (h : codeAny M A cd (Done s₁ tabs) s) : codeAny M A cd (GoodWG cw cl mean args s₁) s :=
  codeAny_mono h fun r s' ⟨hc, hk, hos, hg, hgr⟩ => by
    have keep : ∀ b o, b ∉ tabs.map (·.2) → s₁.heap.get? b = some o → s'.heap.get? b = some o := fun b o hb e => hk b o (ghost_ne e hb)
    have grown : ∀ b o, b ∈ tabs.map (·.2) → s₁.heap.get? b = some o → isCodeTable s₁.heap b ∧ o = tabObj #[] ∧ ∃ ps, s'.heap.get? b = some (tabObj ps) := fun b o hb e => by
      obtain ⟨q, hq, rfl⟩ := List.mem_map.mp hb
      have e2 := (hT q hq).2
      rw [e] at e2
      exact ⟨((hT q hq).1.tab (hT q hq).2).isCodeTable, Option.some.inj e2, hgr.get q hq⟩
    refine ⟨.inl ⟨_, _, [], hc, hr, ReadsW.bool true, hp, fun _ => ⟨List.nodup_nil, fun _ hm => (nomatch hm)⟩⟩, ⟨fun b o e => ?_, fun b o e => ?_⟩, hos, hg⟩
    · by_cases hb : b ∈ tabs.map (·.2)
      · obtain ⟨ht, rfl, ps, hP⟩ := grown b o hb e
        exact .inr (.inl ⟨ht, rfl, #[], ps, rfl, by rw [Array.empty_append]; exact hP⟩)
      · exact .inl (keep b o hb e)
    · by_cases hb : b ∈ tabs.map (·.2)
      · obtain ⟨_, _, ps, hP⟩ := grown b o hb e
        exact ⟨_, hP⟩
      · exact ⟨o, keep b o hb e⟩
end Mine
end

section
open PySem PySem.W PyProof.Rows
namespace Mine
local macro_rules | `(tactic| walk_at "no goal") => `(tactic| skip)
theorem freshL1 : True ∧ True := by
  k_with_none
  w_top off
  first | (walk1; done) | exact ⟨trivial, trivial⟩
end Mine
end

/-! part L1 -/
section
open PySem PySem.W PySem.W.X PyProof.Rows PySem.Calls
set_option maxRecDepth 100000
set_option maxHeartbeats 8000000
namespace Mine
/-- an _Accumulator: a list's subclass, its dict at d -/
def pileObj (d : Addr) (its : List Value) (n : Nat) : Obj := ⟨.ref 101, some d, .seq its.toArray n, #[]⟩
section
variable {prog : Program} {w : World} {A : Around} {E : Value → Shared → Prop} {s : Shared} {K : Frag} {p d L : Addr} {h₀ : Heap} {m : Str → Option Value} {news news' : List (Addr × Obj)} {its : List Value} {n : Nat}
theorem pile_inst {od : Obj} {h : Heap} (N : News h₀ L h news) (h1 : (p, pileObj d its n) ∈ news) (h2 : (d, od) ∈ news) : InstAt h p (pileObj d its n) 101 (some od) := ⟨(N _ h1).1, rfl, rfl, (N _ h2).1⟩

theorem pile_list {w : World} (X : (hd.heap_1 w.params).In s.heap) (hm : mroIn (hd.heap_1 w.params) 101 (.type "list") = some true) (hp : s.heap.get? p = some (pileObj d its n)) : Looks (model prog w) s.heap (isInstance (.ref p) (.type "list")) true :=
  ((Looks.ld hp).andThen .now).andThen (looks_mroIn X hm)

theorem pile_set {f : Obj → Obj} {its' : List Value} {n' : Nat} (F : Fr h₀ L s.heap m) (N : News h₀ L s.heap news) (U : Upd p (pileObj d its n) (pileObj d its' n') news news') (e : f (pileObj d its n) = pileObj d its' n') :
    Fr h₀ L (s.heap.update p f) m ∧ News h₀ L (s.heap.update p f) news' := by
  obtain ⟨pre, post, rfl, rfl, a, b⟩ := U.split
  exact news_upd F N a b e rfl

theorem pile_append {x : Value} {Q : Value → Shared → Prop} (F : Fr h₀ L s.heap m) (X₀ : (hd.heap_1 w.params).In h₀) (N : News h₀ L s.heap news) (hm : mroIn (hd.heap_1 w.params) 101 (.type "list") = some true)
    (U : Upd p (pileObj d its n) (pileObj d (its ++ [x]) (n + 1)) news news') (hsz : its.length ≤ 1000) (h : ∀ h', Fr h₀ L h' m → News h₀ L h' news' → Q .none { s with heap := h' }) :
    wpAny (model prog w) A (call (.builtin "list.append") [.ref p, x]) Q E s := by
  obtain ⟨pre, post, e1, e2, a, b⟩ := U.split
  have hp : s.heap.get? p = some (pileObj d its n) := (N (p, pileObj d its n) (by rw [e1]; exact List.mem_append.mpr (.inr (.head _)))).1
  refine wpAny_call (codeAny_call_builtin slot_list_append.plain entry_list_append (kfo_check (i := "list.append") (owner := "list") (n := "append") (by decide +kernel) (by decide +kernel) (pile_list (X₀.keeps F.keep) hm hp) (args_list_append _ _) ?_))
  show wpAny _ _ (updateSeq p (·.push x) >>= fun _ => ret .none) _ _ s
  have z1 : its.toArray.size ≤ sizeLine := by rw [List.size_toArray, sizeLine_eq]; omega
  have z2 : (its.toArray.push x).size ≤ sizeLine + 1 := by rw [Array.size_push, List.size_toArray, sizeLine_eq]; omega
  have ef : Obj.mapSeq (·.push x) (pileObj d its n) = pileObj d (its ++ [x]) (n + 1) := by
    unfold pileObj
    simp only [Obj.mapSeq, Array.size_push, List.size_toArray]
    rw [if_neg (by simp)]
    simp
  refine wpAny_bind (wpAny_updateSeq hp rfl (wpAny_pure ?_) z1 z2)
  have q := pile_set F N U ef
  exact h _ q.1 q.2

/-- the list's own pop on a pile that is not empty -/
theorem pile_pop {x : Value} {Q : PySem.Fin → Shared → Prop} (F : Fr h₀ L s.heap m) (N : News h₀ L s.heap news) (U : Upd p (pileObj d (its ++ [x]) n) (pileObj d its (n + 1)) news news') (hsz : its.length ≤ 1000)
    (h : ∀ h', Fr h₀ L h' m → News h₀ L h' news' → Q (.done (.ret x)) { s with heap := h' }) :
    wpAny (model prog w) A (Builtin.«list.pop» ⟨[.ref p], []⟩) Q E s := by
  obtain ⟨pre, post, e1, e2, a, b⟩ := U.split
  have hp : s.heap.get? p = some (pileObj d (its ++ [x]) n) := (N (p, pileObj d (its ++ [x]) n) (by rw [e1]; exact List.mem_append.mpr (.inr (.head _)))).1
  have z1 : (its ++ [x]).toArray.size ≤ sizeLine := by rw [List.size_toArray, List.length_append, sizeLine_eq]; simp; omega
  have z2 : ((its ++ [x]).toArray.eraseIdxIfInBounds its.length).size ≤ sizeLine + 1 := Nat.le_trans (MeetsSeq.size_erased _ _) (Nat.le_succ_of_le z1)
  have ea : (its ++ [x]).toArray.eraseIdxIfInBounds its.length = its.toArray := by
    apply Array.ext'
    have e3 : (its ++ [x]).eraseIdx its.length = its := by
      rw [List.eraseIdx_append_of_length_le (Nat.le_refl _), Nat.sub_self]; simp
    simp [Array.eraseIdxIfInBounds, e3]
  have ef : Obj.mapSeq (·.eraseIdxIfInBounds its.length) (pileObj d (its ++ [x]) n) = pileObj d its (n + 1) := by
    unfold pileObj
    simp only [Obj.mapSeq, ea, List.size_toArray, List.length_append]
    rw [if_neg (by simp)]
  have hidx : ((seqIndex? (-1) (its ++ [x]).toArray.size).bind fun k => (its ++ [x]).toArray[k]?.map (k, ·)) = some (its.length, x) := by
    have e4 : seqIndex? (-1) (its ++ [x]).toArray.size = some its.length := by
      unfold seqIndex?
      rw [List.size_toArray, List.length_append]
      simp
      omega
    rw [e4]
    simp
  have hne : (its ++ [x]).toArray.isEmpty = false := by simp
  unfold Builtin.«list.pop»
  refine wpAny_bind (m := selfAndSome "list.pop" "pop" 0 1 _) (wpAny_pure ?_)
  dsimp only
  refine wpAny_bind (wpAny_pure ?_)
  rw [if_neg (by decide)]
  have hli : ∀ {Q' : Array Value → Shared → Prop} {E' : Value → Shared → Prop}, Q' (its ++ [x]).toArray s → wpAny (model prog w) A (Builtin.List.listItems (.ref p)) Q' E' s := fun q => by
    unfold Builtin.List.listItems seqItems?
    exact wpAny_bind (wpAny_bind (wpAny_load hp (wpAny_pure (wpAny_pure q))))
  refine wpAny_bind (hli ?_)
  rw [hne, if_neg (by decide), hidx]
  show wpAny _ _ (updateSeq p (·.eraseIdxIfInBounds its.length) >>= fun _ => ret x) _ _ s
  refine wpAny_bind (wpAny_updateSeq hp rfl (wpAny_pure ?_) z1 z2)
  have q := pile_set F N U ef
  exact h _ q.1 q.2
end
end Mine
end

section
open PySem PySem.W PyProof.Rows
namespace Mine
local macro_rules | `(tactic| walk_at "no goal") => `(tactic| skip)
theorem freshL2 : True ∧ True := by
  k_with_none
  w_top off
  first | (walk1; done) | exact ⟨trivial, trivial⟩
end Mine
end

/-! part L2 -/
section
open PySem PySem.W PySem.W.X PyProof.Rows PySem.Calls
set_option maxRecDepth 100000
set_option maxHeartbeats 8000000
namespace Mine
/-- what X leaves, in the walk's own words -/
theorem ofMem {h₀ h h' : Heap} {L : Addr} {m : Str → Option Value} {news nw : List (Addr × Obj)} (F : Fr h₀ L h m) (N : News h₀ L h news) (D : Mem h h' [] nw) :
    Fr h₀ L h' m ∧ News h₀ L h' (nw ++ news) ∧ (∀ p ∈ nw, ∀ q ∈ news, q.1 ≠ p.1) := by
  have k : ∀ b o, h.get? b = some o → h'.get? b = some o := fun b o e => D.keep b o e (by simp [away])
  refine Classical.byContradiction fun hn9 => ?_
  obtain ⟨oL, es, ep, hL, r⟩ := F.ns
  refine hn9 ?_
  clear hn9
  refine ⟨⟨⟨oL, es, ep, k _ _ hL, r⟩, fun b o e => k b o (F.keep b o e), F.above⟩, fun p hp => ?_, fun p hp q hq e => ?_⟩
  · rcases List.mem_append.mp hp with hp | hp
    · have z := D.nw p hp
      refine ⟨z.1, fun e => ?_, ?_⟩
      · have := z.2; rw [e, hL] at this; cases this
      · cases q : h₀.get? p.1 with
        | none => rfl
        | some o => have := z.2; rw [F.keep _ _ q] at this; cases this
    · exact ⟨k _ _ (N p hp).1, (N p hp).2⟩
  · have z := (D.nw p hp).2
    rw [← e, (N q hq).1] at z; cases z
section
variable {prog : Program} {w : World} {A : Around} {E : Value → Shared → Prop} {h : Heap} {g : Array GenState} {dr : Drawn} {t : Nat} {os : OsState} {so D x C : Addr} {l₀ l : List Value} {K : Frag} {name : Str} {id TD gid : String}
/-- an attribute of super() that a built-in base bears -/
theorem super_ga {tk : Tok} {Q : Fin → Shared → Prop}
    (hso : h.get? so = some { cls := .type "super", dict := none, data := .fields #[.ref D, .ref x, .ref C], slots := #[] }) (hno : Looks (model prog w) h (opaqueClassAbove (.ref C)) none)
    (hC : Looks (model prog w) h (mroOf (.ref C)) l₀) (hl : (l₀.dropWhile (· != .ref D)).drop 1 = l) (X : K.In h)
    (hf : alongIn K name l = some (some (.builtin id))) (hT : typeOf (.builtin id) = pure (.type TD)) (hG : typeLookup (.type TD) "__get__" = pure (some (.builtin gid)))
    (hxC : x ≠ C) (hn : (name == ("__class__" : Str)) = false)
    (hq : wpAny (model prog w) A (call (.builtin gid) [.builtin id, .ref x, .ref C]) (fun v s' => Q (.done (.ret v)) s') E ⟨h, g, dr, t, os⟩) :
    wpAny (model prog w) A (Builtin.«super.__getattribute__» ⟨[.ref so, .str name tk], []⟩) Q E ⟨h, g, dr, t, os⟩ := by
  have hne : (Value.ref x == Value.ref C) = false := by simp [hxC]
  have hdt : ({ cls := .type "super", dict := none, data := .fields #[.ref D, .ref x, .ref C], slots := #[] } : Obj).data = .fields #[.ref D, .ref x, .ref C] := rfl
  have f0 : (#[.ref D, .ref x, .ref C] : Array Value)[0]? = some (.ref D) := rfl
  have f1 : (#[.ref D, .ref x, .ref C] : Array Value)[1]? = some (.ref x) := rfl
  have f2 : (#[.ref D, .ref x, .ref C] : Array Value)[2]? = some (.ref C) := rfl
  unfold Builtin.«super.__getattribute__»
  repeat (first
    | (with_reducible refine wpAny_field hso hdt f0 ?_) | (with_reducible refine wpAny_field hso hdt f1 ?_) | (with_reducible refine wpAny_field hso hdt f2 ?_)
    | (with_reducible refine ks_wpAny_notOpaque hno ?_)
    | (with_reducible refine Looks.at hC ?_; rw [hl])
    | (refine ks_forIn_along X (fun _ _ => rfl) rfl ?_ hf)
    | (with_reducible refine wpAny_of_eq hT ?_)
    | (with_reducible refine wpAny_of_eq hG ?_)
    | (with_reducible refine wpAny_mono hq (fun v s' hv => ?_) fun _ _ z => z)
    | (simp only [hn, hne, Bool.or_false, Bool.false_eq_true, if_false])
    | wp_step
    | dsimp only)
  all_goals exact hv
theorem super_method {pl : Sem Bool} {Q : Value × List Value → Shared → Prop}
    (hso : h.get? so = some { cls := .type "super", dict := none, data := .fields #[.ref D, .ref x, .ref C], slots := #[] }) (hno : Looks (model prog w) h (opaqueClassAbove (.ref C)) none)
    (hC : Looks (model prog w) h (mroOf (.ref C)) l₀) (hl : (l₀.dropWhile (· != .ref D)).drop 1 = l) (X : K.In h)
    (hf : alongIn K name l = some (some (.builtin id))) (hT : typeOf (.builtin id) = pure (.type TD)) (hG : typeLookup (.type TD) "__get__" = pure (some (.builtin gid)))
    (hxC : x ≠ C) (hn : (name == ("__class__" : Str)) = false)
    (hq : wpAny (model prog w) A.in1 (call (.builtin gid) [.builtin id, .ref x, .ref C]) (fun v s' => ∃ q, v = .ref q ∧ Q (.ref q, []) s') (fun _ _ => False) ⟨h, g, dr, t + 1, os⟩) :
    wpAny (model prog w) A (getMethod (.ref so) name pl) Q E ⟨h, g, dr, t, os⟩ := by
  have hlk := PySem.F.ks_slot_super_ga.lookup
  have hcan := PySem.F.ks_canon_super_ga
  have hS : ∀ t', (⟨h, g, dr, t', os⟩ : Shared).TypeIs (.ref so) "super" := fun _ => ⟨_, hso, rfl⟩
  unfold getMethod
  refine wpAny_bind (wpAny_specialOf (hS _) hlk ?_)
  show wpAny _ _ (if (Manifest.canonical "super.__getattribute__" != "object.__getattribute__") = true then _ else _) _ _ _
  rw [if_pos hcan]
  unfold getAttr getAttrBy
  refine wpAny_bind (wpAny_bind (wpAny_mkText (wpAny_holding (wpAny_bind (wpAny_typeOf (hS _) (wpAny_bind (wpAny_of_eq hlk ?_)))))))
  show wpAny _ _ (getAttrByItsOwn (.ref so) (.str name t) (.type "super") (.builtin "super.__getattribute__") true false) _ _ _
  unfold getAttrByItsOwn hookBefore callGetattribute boundAndCalled
  refine wpAny_bind (wpAny_of_eq (show (if onTheHeap (.type "super") then typeLookup (.type "super") "__getattr__" else pure none) = pure none from rfl) ?_)
  refine wpAny_bind (wpAny_attempt (wpAny_holding ?_))
  show wpAny _ _ (bindSpecial (.builtin "super.__getattribute__") (.ref so) >>= _) _ _ _
  refine wpAny_bind (wpAny_of_eq (PySem.F.ks_slot_super_ga.bind _) ?_)
  refine wpAny_mono (Q := fun v s' => ∃ q, v = .ref q ∧ Q (.ref q, []) s') (E := fun _ _ => False)
    (wpAny_call_entry PySem.F.ks_slot_super_ga (hS _) PySem.F.ks_entry_super_ga (super_ga hso hno hC hl X hf hT hG hxC hn (wpAny_mono hq (fun v s' hv => ⟨v, rfl, hv⟩) fun _ _ z => z)) (PySem.F.ks_gaArgs_super _ _)) (fun v s' hv => ?_) fun _ _ z => z.elim
  obtain ⟨q, rfl, hv⟩ := hv
  exact wpAny_pure (wpAny_pure hv)
end
end Mine
end

section
open PySem PySem.W PyProof.Rows
namespace Mine
local macro_rules | `(tactic| walk_at "no goal") => `(tactic| skip)
theorem freshL3 : True ∧ True := by
  k_with_none
  w_top off
  first | (walk1; done) | exact ⟨trivial, trivial⟩
end Mine
end

/-! part L3 -/
section
open PySem PySem.W PySem.W.X PyProof.Rows PySem.Calls
set_option maxRecDepth 100000
set_option maxHeartbeats 8000000
namespace Mine
noncomputable abbrev KF (w : World) : Frag := hd.heap_1 w.params
theorem mro_mod (P : Params) : mroIn (hd.heap_1 P) 101 (.type "module") = some false := by kernel_rfl
theorem mro_list (P : Params) : mroIn (hd.heap_1 P) 101 (.type "list") = some true := by kernel_rfl
section
variable {w : World} {A : Around} {E : Value → Shared → Prop} {s : Shared} {p d L q : Addr} {h₀ : Heap} {m : Str → Option Value} {news news' : List (Addr × Obj)} {its : List Value} {n : Nat}
theorem bound_pop {Q : Unit → Shared → Prop} (X : (KF w).In s.heap) (hp : s.heap.get? p = some (pileObj d its n)) (h : Q () s) :
    wpAny (model PySem.Challenge.pw_qw0044_01 w) A (checkBoundCall "list.pop" ⟨[.ref p], []⟩) Q E s := by
  obtain ⟨sig, hsig⟩ : ∃ sig, Manifest.signature? "list.pop" = some sig := Option.isSome_iff_exists.mp (by decide +kernel)
  have hchk : Bind.checkArgs "list.pop" { sig with full := "_Accumulator" ++ "." ++ Bind.lastOf "list.pop" } ⟨[.ref p], []⟩ = pure () := by
    have e : ∀ h, Bind.checkArgs "list.pop" { (Manifest.signature? "list.pop").get h with full := "_Accumulator" ++ "." ++ Bind.lastOf "list.pop" } ⟨[.ref p], []⟩ = pure () := fun h => by kernel_rfl
    have e2 := e (by rw [hsig]; rfl)
    simp only [hsig, Option.get_some] at e2
    exact e2
  have hkind : builtinKind "list.pop" = some .method := by decide +kernel
  have hva : Manifest.varargsMethods.contains "list.pop" = false := by decide +kernel
  have l1 : Looks (model PySem.Challenge.pw_qw0044_01 w) s.heap (isInstance (.ref p) (.type "module")) false := ((Looks.ld hp).andThen .now).andThen (looks_mroIn X (mro_mod _))
  have l2 : Looks (model PySem.Challenge.pw_qw0044_01 w) s.heap (isType (.ref p)) false := (Looks.ld hp).andThen .now
  have l3 : Looks (model PySem.Challenge.pw_qw0044_01 w) s.heap (typeOf (.ref p)) (.ref 101) := (Looks.ld hp).andThen .now
  obtain ⟨oc, l4, l5, hqn⟩ : ∃ cd, Looks (model PySem.Challenge.pw_qw0044_01 w) s.heap (classData 101) cd ∧ Looks (model PySem.Challenge.pw_qw0044_01 w) s.heap (typeOf (.ref 101)) (.type "type") ∧ cd.qualname.toString = "_Accumulator" := by
    have hq : (clsIn (KF w) 101).map (fun c => c.qualname.toString) = some "_Accumulator" := by kernel_rfl
    obtain ⟨cd, hcd, e⟩ := Option.map_eq_some_iff.mp hq
    exact ⟨cd, looks_clsIn X hcd, looks_typeIn X (by kernel_rfl), e⟩
  obtain ⟨hh, g, dr, tk, os⟩ := s
  unfold checkBoundCall
  rw [hsig, hkind]
  dsimp only
  rw [if_neg (by decide)]
  simp only [hva]
  repeat (first
    | (with_reducible refine Looks.at l1 ?_) | (with_reducible refine Looks.at l2 ?_) | (with_reducible refine Looks.at l3 ?_) | (with_reducible refine Looks.at l4 ?_) | (with_reducible refine Looks.at l5 ?_)
    | (with_reducible refine wpAny_of_eq hchk ?_)
    | (rw [hqn])
    | wp_step
    | dsimp only
    | (simp only [Bool.or_self, Bool.false_eq_true, if_false, beq_self_eq_true, if_true]))
  all_goals exact h
end
/-- a built-in's method bound to an object -/
abbrev bmObj (c id : String) (p : Addr) : Obj := ⟨.type c, none, .fields #[.builtin id, .ref p], #[]⟩
section
variable {prog : Program} {w : World} {A : Around} {E : Value → Shared → Prop} {s : Shared} {p d L q so : Addr} {h₀ : Heap} {m : Str → Option Value} {news news' : List (Addr × Obj)} {its : List Value} {n : Nat} {Q : Value → Shared → Prop}
theorem fin1 {o : Obj} {h' : Heap} (fin : ∀ q h', Mem s.heap h' [] [(q, o)] → Q (.ref q) { s with heap := h' }) (D : Mem s.heap h' [] [(q, o)]) : Q (.ref q) { s with heap := h' } := fin q h' D
local macro_rules | `(tactic| x_close) => `(tactic| exact fin1 (by assumption) (by assumption))
theorem get_pop_x (KX : (hd.heap_1 w.params).In s.heap) (hp : s.heap.get? p = some ⟨.ref 101, some d, .seq its.toArray n, #[]⟩)
    (fin : ∀ q h', Mem s.heap h' [] [(q, bmObj "builtin_function_or_method" "list.pop" p)] → Q (.ref q) { s with heap := h' }) :
    wpAny (model prog w) A (PySem.call (.builtin "method_descriptor.__get__") [.builtin "list.pop", .ref p, .ref 101]) Q E s := by
  x_run
theorem get_len_x (KX : (hd.heap_1 w.params).In s.heap) (hp : s.heap.get? p = some ⟨.ref 101, some d, .seq its.toArray n, #[]⟩)
    (fin : ∀ q h', Mem s.heap h' [] [(q, bmObj "method-wrapper" "list.__len__" p)] → Q (.ref q) { s with heap := h' }) :
    wpAny (model prog w) A (PySem.call (.builtin "wrapper_descriptor.__get__") [.builtin "list.__len__", .ref p, .ref 101]) Q E s := by
  x_run
theorem get_init_x (KX : (hd.heap_1 w.params).In s.heap) (hp : s.heap.get? p = some ⟨.ref 101, some d, .seq its.toArray n, #[]⟩)
    (fin : ∀ q h', Mem s.heap h' [] [(q, bmObj "method-wrapper" "list.__init__" p)] → Q (.ref q) { s with heap := h' }) :
    wpAny (model prog w) A (PySem.call (.builtin "wrapper_descriptor.__get__") [.builtin "list.__init__", .ref p, .ref 101]) Q E s := by
  x_run
end
section
variable {w : World} {A : Around} {E : Value → Shared → Prop} {s : Shared} {p d L so : Addr} {h₀ : Heap} {m : Str → Option Value} {news news' : List (Addr × Obj)} {its : List Value} {n : Nat} {name : Str} {id TD gid C : String}
/-- super().NAME on the pile -/
theorem super_pile {pl : Sem Bool} {Q : Value × List Value → Shared → Prop} (F : Fr h₀ L s.heap m) (X₀ : (hd.heap_1 w.params).In h₀) (N : News h₀ L s.heap news) (hso : (so, ks_superObj 101 p 101) ∈ news) (hp : (p, pileObj d its n) ∈ news)
    (hf : alongIn (hd.heap_1 w.params) name [.type "list", .type "object"] = some (some (.builtin id))) (hT : typeOf (.builtin id) = pure (.type TD)) (hG : typeLookup (.type TD) "__get__" = pure (some (.builtin gid))) (hn : (name == ("__class__" : Str)) = false)
    (hx : ∀ {A : Around} {s : Shared} {Q : Value → Shared → Prop} {E : Value → Shared → Prop}, (hd.heap_1 w.params).In s.heap → s.heap.get? p = some ⟨.ref 101, some d, .seq its.toArray n, #[]⟩ →
      (∀ q h', Mem s.heap h' [] [(q, bmObj C id p)] → Q (.ref q) { s with heap := h' }) → wpAny (model PySem.Challenge.pw_qw0044_01 w) A (PySem.call (.builtin gid) [.builtin id, .ref p, .ref 101]) Q E s)
    (h : ∀ q h', Fr h₀ L h' m → News h₀ L h' ((q, bmObj C id p) :: news) → (∀ r ∈ news, r.1 ≠ q) → Q (.ref q, []) { s with heap := h', toks := s.toks + 1 }) :
    wpAny (model PySem.Challenge.pw_qw0044_01 w) A (getMethod (.ref so) name pl) Q E s := by
  have X := X₀.keeps F.keep
  obtain ⟨hh, g, dr, tk, os⟩ := s
  have hpp := (N _ hp).1
  have hne : p ≠ 101 := by
    rintro rfl
    obtain ⟨o, ho⟩ : ∃ o, (hd.heap_1 w.params).lookup 101 = some o := Option.isSome_iff_exists.mp (by kernel_rfl)
    have := (N _ hp).2.2
    rw [X₀ _ _ ho] at this; cases this
  obtain ⟨cd, hcd, hmro⟩ : ∃ cd, clsIn (hd.heap_1 w.params) 101 = some cd ∧ cd.mro = [.ref 101, .type "list", .type "object"] := by
    have hq : (clsIn (hd.heap_1 w.params) 101).map (fun c => c.mro) = some [.ref 101, .type "list", .type "object"] := by kernel_rfl
    obtain ⟨cd, hcd, e⟩ := Option.map_eq_some_iff.mp hq
    exact ⟨cd, hcd, e⟩
  refine super_method (l₀ := [.ref 101, .type "list", .type "object"]) (l := [.type "list", .type "object"]) (N _ hso).1 (looks_opaque X (by kernel_rfl)) ?_ (by decide) X hf hT hG hne hn ?_
  · rw [← hmro]
    exact fun A Q E s k q => wpAny_bind ((looks_clsIn X hcd) A _ E s k (wpAny_pure q))
  · refine hx X hpp fun q h' D => ⟨q, rfl, ?_⟩
    obtain ⟨F', N', ne⟩ := ofMem F N D
    exact h q h' F' N' fun r hr => ne (q, _) (.head _) r hr
end
end Mine
end

section
open PySem PySem.W PyProof.Rows
namespace Mine
local macro_rules | `(tactic| walk_at "no goal") => `(tactic| skip)
theorem freshL4 : True ∧ True := by
  k_with_none
  w_top off
  first | (walk1; done) | exact ⟨trivial, trivial⟩
end Mine
end

/-! part L4 -/
section
open PySem PySem.W PySem.W.X PyProof.Rows PySem.Calls
set_option maxRecDepth 100000
set_option maxHeartbeats 8000000
namespace Mine
section
variable {w : World} {e : Env} {E : Value → Shared → Prop} {s : Shared} {Q : Value → Shared → Prop}
theorem fin2 {p d : Addr} {h' : Heap} (fin : ∀ p d h', Mem s.heap h' [] [(p, ⟨.ref 101, some d, .seq #[] 0, #[]⟩), (d, ⟨.type "dict", none, .dict #[] 0, #[]⟩)] → Q (.ref p) { s with heap := h' })
    (D : Mem s.heap h' [] [(p, ⟨.ref 101, some d, .seq #[] 0, #[]⟩), (d, ⟨.type "dict", none, .dict #[] 0, #[]⟩)]) : Q (.ref p) { s with heap := h' } := fin p d h' D
local macro_rules | `(tactic| x_close) => `(tactic| exact fin2 (by assumption) (by assumption))
theorem new_pile_x (KX : (hd.heap_1 w.params).In s.heap)
    (fin : ∀ p d h', Mem s.heap h' [] [(p, ⟨.ref 101, some d, .seq #[] 0, #[]⟩), (d, ⟨.type "dict", none, .dict #[] 0, #[]⟩)] → Q (.ref p) { s with heap := h' }) :
    wpAny (model PySem.Challenge.pw_qw0044_01 w) ((callerA.deeper e).under (.builtin "type.__call__" ⟨[.ref 101], []⟩)) (PySem.call (.builtin "list.__new__") [.ref 101]) Q E s := by
  x_run
end
section
variable {w : World} {e : Env} {R : Result → Shared → Prop} {h : Heap} {g : Array GenState} {dr : Drawn} {t : Nat} {os : OsState}
theorem make_pile (X : (hd.heap_1 w.params).In h)
    (hq : ∀ p d h', Mem h h' [] [(p, ⟨.ref 101, some d, .seq #[] 0, #[]⟩), (d, ⟨.type "dict", none, .dict #[] 0, #[]⟩)] →
      codeAny (model PySem.Challenge.pw_qw0044_01 w) ((callerA.deeper e).under (.builtin "type.__call__" ⟨[.ref 101], []⟩)) (.call (.ref 38) ⟨[.ref p], []⟩) (InitBack p R) ⟨h', g, dr, t, os⟩) :
    codeAny (model PySem.Challenge.pw_qw0044_01 w) (callerA.deeper e) (.call (.ref 101) ⟨[], []⟩) R ⟨h, g, dr, t, os⟩ := by
  refine Classical.byContradiction fun hn9 => ?_
  obtain ⟨oc, od, cd, sl, hC, hmro, h3⟩ : ∃ oc od cd sl, h.get? 101 = some ⟨oc, od, .cls cd, sl⟩ ∧ cd.mro.isEmpty = false ∧ sl.toList[4]? = some (some (.builtin "list.__new__")) := by
    obtain ⟨o, ho⟩ : ∃ o, (hd.heap_1 w.params).lookup 101 = some o := Option.isSome_iff_exists.mp (by kernel_rfl)
    have hk : (match (hd.heap_1 w.params).lookup 101 with | some ⟨_, _, .cls cd, sl⟩ => cd.mro.isEmpty == false && (sl.toList[4]? == some (some (.builtin "list.__new__"))) | _ => false) = true := by kernel_rfl
    rw [ho] at hk
    obtain ⟨oc, od, dt, sl⟩ := o
    cases dt with
    | cls cd =>
      simp only [Bool.and_eq_true, beq_iff_eq] at hk
      exact ⟨oc, od, cd, sl, X _ _ ho, hk.1, hk.2⟩
    | _ => cases hk
  refine hn9 ?_
  clear hn9
  have call : Looks (model PySem.Challenge.pw_qw0044_01 w) h (specialOf (.ref 101) "__call__") (some (.builtin "type.__call__")) := looks_specialIn X (by kernel_rfl)
  have typ : Looks (model PySem.Challenge.pw_qw0044_01 w) h (isInstance (.ref 101) (.type "type")) true := looks_instIn X (by kernel_rfl)
  have hm : Looks (model PySem.Challenge.pw_qw0044_01 w) h (mroOf (.ref 101)) cd.mro := ((Looks.ld (part := none) hC).andThen .now).andThen .now
  obtain ⟨c₀, l₀, hl⟩ : ∃ c l, cd.mro = c :: l := by cases q : cd.mro with | nil => rw [q] at hmro; cases hmro | cons c l => exact ⟨c, l, rfl⟩
  have hc0 : c₀ = .ref 101 := by
    have hq : (clsIn (hd.heap_1 w.params) 101).map (fun c => c.mro.head?) = some (some (.ref 101)) := by kernel_rfl
    obtain ⟨cd', hcd', e'⟩ := Option.map_eq_some_iff.mp hq
    have : cd' = cd := by
      unfold clsIn at hcd'
      split at hcd'
      · rename_i ho'
        have z := X _ _ ho'
        rw [hC] at z; cases z; cases hcd'; rfl
      · cases hcd'
    rw [this, hl] at e'
    exact Option.some.inj e'
  subst hc0
  have made : Looks (model PySem.Challenge.pw_qw0044_01 w) h (Bind.madeBy (.ref 101)) (some "list.__new__") := by
    intro A Q E s k q
    unfold Bind.madeBy
    refine wpAny_bind (hm A _ E s k ?_)
    rw [hl, List.forIn_cons]
    refine wpAny_bind (wpAny_bind (wpAny_bind (wpAny_bind (wpAny_loadPart (k _ _ hC) (wpAny_pure ?_)))))
    dsimp only
    rw [← Array.getElem?_toList, h3]
    exact wpAny_pure (wpAny_pure (wpAny_pure q))
  refine codeAny_of_tree ?_
  show wpAny _ _ (callAny (.ref 101) _) _ _ _
  refine nd_load hC ?_
  show wpAny _ _ (callAny.viaDunder (.ref 101) _) _ _ _
  unfold callAny.viaDunder
  refine wpAny_bind (call.at ?_)
  dsimp only
  rw [tc_bind]
  refine wpAny_bind (wpAny_pure (wpAny_bind (wpAny_pure ?_)))
  refine wpAny_pure (a := Fin.again (.call (.builtin "type.__call__") ⟨[.ref 101], []⟩)) (And.intro rfl ?_)
  refine codeAny_call_builtin_at (Code.quiet_builtin _ (by decide +kernel)) entry_typeCall (check_slot tc_kind tc_split typ (tc_args _ _ _) ?_)
  unfold Builtin.«type.__call__»
  repeat (first | simp only [hmro, Bool.false_eq_true, if_false] | (with_reducible refine new_pile_x X ?_; intro p d h' D) | lk)
  have k : ∀ b o, h.get? b = some o → h'.get? b = some o := fun b o e => D.keep b o e (by simp [away])
  have X' := X.keeps k
  have hp := (D.nw _ (.head _)).1
  have t1 : Looks (model PySem.Challenge.pw_qw0044_01 w) h' (typeOf (.ref p)) (.ref 101) := (Looks.ld hp).andThen .now
  have s1 : Looks (model PySem.Challenge.pw_qw0044_01 w) h' (isSubtype (.ref 101) (.ref 101)) true := looks_mroIn X' (by kernel_rfl)
  have i1 : Looks (model PySem.Challenge.pw_qw0044_01 w) h' (typeLookup (.ref 101) "__init__") (some (.ref 38)) := looks_findIn X' (by kernel_rfl)
  have b1 : Looks (model PySem.Challenge.pw_qw0044_01 w) h' (bindSpecial (.ref 38) (.ref p)) (.ref 38, [.ref p]) := bind_fn X' _ (by kernel_rfl)
  show wpAny _ _ (loadPart p (some headPart)) _ _ _
  refine wpAny_loadPart hp (wpAny_pure ?_)
  unfold callSpecial? specialOf
  repeat (first | with_reducible refine wpAny_call ?_ | simp only [Bool.not_true, Bool.false_eq_true, if_false] | lk)
  refine codeAny_mono (hq p d h' D) fun r s' z => ?_
  rcases r with e | (v | _ | _ | _) <;> first | exact z | exact z.elim | skip
  obtain ⟨rfl, z⟩ := z
  exact wpAny_pure (wpAny_pure z)
end
end Mine
end

section
open PySem PySem.W PyProof.Rows
namespace Mine
local macro_rules | `(tactic| walk_at "no goal") => `(tactic| skip)
theorem freshL5 : True ∧ True := by
  k_with_none
  w_top off
  first | (walk1; done) | exact ⟨trivial, trivial⟩
end Mine
end

/-! part L5 -/
section
open PySem PySem.W PySem.W.X PyProof.Rows PySem.Calls
set_option maxRecDepth 100000
set_option maxHeartbeats 8000000
namespace Mine
def AllNe (d : Nat) : List (Addr × Obj) → Prop
  | [] => True
  | p :: r => @Ne Nat p.1 d ∧ AllNe d r
theorem allNe_of {d : Addr} : ∀ {l : List (Addr × Obj)}, (∀ p ∈ l, p.1 ≠ d) → AllNe d l
  | [], _ => trivial
  | p :: _, h => ⟨h p (.head _), allNe_of fun q hq => h q (.tail _ hq)⟩
section
variable {w : World} {A : Around} {E : Value → Shared → Prop} {s : Shared} {p d L q : Addr} {h₀ : Heap} {m : Str → Option Value} {news news' : List (Addr × Obj)} {its : List Value} {n : Nat} {Q : Value → Shared → Prop} {c id : String}
theorem acc_K {e : Env} (F : Fr h₀ L s.heap m) (X₀ : (hd.heap_1 w.params).In h₀) (N : News h₀ L s.heap news)
    (h : ∀ p d h', Fr h₀ L h' m → News h₀ L h' ((p, pileObj d [] 0) :: (d, dictOf [] 0) :: news) → (∀ r ∈ news, r.1 ≠ d) → (∀ r ∈ news, r.1 ≠ p) → d ≠ p →
      codeAny (model PySem.Challenge.pw_qw0044_01 w) ((callerA.deeper e).under (.builtin "type.__call__" ⟨[.ref 101], []⟩)) (.call (.ref 38) ⟨[.ref p], []⟩) (InitBack p fun r s' => match r with | .ok (.ret v) => Q v s' | .ok _ => False | .error e => E e s') { s with heap := h' }) :
    wpAny (model PySem.Challenge.pw_qw0044_01 w) (callerA.deeper e) (PySem.call (.ref 101) []) Q E s := by
  refine Classical.byContradiction fun hn9 => ?_
  obtain ⟨hh, g, dr, tk, os⟩ := s
  refine hn9 ?_
  clear hn9
  refine wpAny_call (make_pile (X₀.keeps F.keep) fun p d h' D => ?_)
  obtain ⟨F', N', ne⟩ := ofMem F N D
  exact h p d h' F' N' (ne _ (.tail _ (.head _))) (ne _ (.head _)) (Nat.ne_of_lt ((List.pairwise_cons.mp D.ord).1 d (.head _)))

theorem callWith_bm {M : Model} {pos : Pos} {env : Env} (N : News h₀ L s.heap news) (hq : (q, bmObj c id p) ∈ news) (hc : (Value.type c == .type "builtin_function_or_method" || Value.type c == .type "method-wrapper") = true) (hm : (Value.type c != .type "method") = true)
    (h : wpAny M A (PySem.call (.ref q) ([] ++ [])) Q E s) : wpAny M A (callWith pos (.ref q) [] (backTo pos (starEach [] env)) []) Q E s :=
  callWith_of (P := fun h => h.get? q = some (bmObj c id p)) rfl (fun h e => ⟨.machine, .inr (.inl rfl), (Looks.ld e).andThen (by
    show Looks M h (if (Value.type c != .type "method") = true then pure (if (Value.type c == .type "builtin_function_or_method" || Value.type c == .type "method-wrapper") = true then Keeper.machine else Keeper.caller) else _) _
    rw [if_pos hm, if_pos hc]; exact .now)⟩) (evalArgs_nil3 ⟨(N _ hq).1, h⟩)

theorem bm_call {R : Result → Shared → Prop} {rest : List Value} (hq : s.heap.get? q = some (bmObj c id p)) (hc : (Value.type c == .type "method" || Value.type c == .type "builtin_function_or_method" || Value.type c == .type "method-wrapper") = true) (hm : (Value.type c != .type "method") = true)
    (hqt : (Code.builtin id ⟨.ref p :: rest, []⟩).quiet = true)
    (h : wpAny (model PySem.Challenge.pw_qw0044_01 w) A.in1 (checkBoundCall id ⟨.ref p :: rest, []⟩) (fun _ s₁ => codeAny (model PySem.Challenge.pw_qw0044_01 w) A (.builtin id ⟨.ref p :: rest, []⟩) R s₁) (fun e s' => R (.error e) s') s) :
    codeAny (model PySem.Challenge.pw_qw0044_01 w) A (.call (.ref q) ⟨rest, []⟩) R s := by
  refine codeAny_of_tree ?_
  show wpAny _ A.in1 (callAny (.ref q) ⟨rest, []⟩) _ _ _
  unfold callAny
  refine wpAny_bind (wpAny_load hq ?_)
  dsimp only
  rw [if_pos hc]
  show wpAny _ _ (if (Value.type c != .type "method") = true then (do checkBoundCall id ⟨.ref p :: rest, []⟩; again (.builtin id ⟨.ref p :: rest, []⟩)) else _) _ _ _
  rw [if_pos hm]
  exact wpAny_bind (wpAny_mono h (fun _ s₁ h₁ => wpAny_pure ⟨hqt, h₁⟩) fun _ _ z => z)

theorem pop_bm {x : Value} (F : Fr h₀ L s.heap m) (X₀ : (hd.heap_1 w.params).In h₀) (N : News h₀ L s.heap news) (hq : (q, bmObj "builtin_function_or_method" "list.pop" p) ∈ news)
    (U : Upd p (pileObj d (its ++ [x]) n) (pileObj d its (n + 1)) news news') (hsz : its.length ≤ 1000) (h : ∀ h', Fr h₀ L h' m → News h₀ L h' news' → Q x { s with heap := h' }) :
    wpAny (model PySem.Challenge.pw_qw0044_01 w) A (PySem.call (.ref q) ([] ++ [])) Q E s := by
  refine Classical.byContradiction fun hn9 => ?_
  obtain ⟨pre, post, e1, e2, a, b⟩ := U.split
  refine hn9 ?_
  clear hn9
  have hp : s.heap.get? p = some (pileObj d (its ++ [x]) n) := (N (p, _) (by rw [e1]; exact List.mem_append.mpr (.inr (.head _)))).1
  refine wpAny_call (bm_call (N _ hq).1 (by decide) (by decide) (plainId_quiet PySem.F.slot_list_pop.plain _) (bound_pop (X₀.keeps F.keep) hp ?_))
  refine codeAny_builtin PySem.F.entry_list_pop ?_
  rw [Around.under_plainId PySem.F.slot_list_pop.plain]
  exact pile_pop F N U hsz h

theorem init_bm (F : Fr h₀ L s.heap m) (N : News h₀ L s.heap news) (hq : (q, bmObj "method-wrapper" "list.__init__" p) ∈ news)
    (U : Upd p (pileObj d [] n) (pileObj d [] n) news news') (h : ∀ h', Fr h₀ L h' m → News h₀ L h' news' → Q .none { s with heap := h' }) :
    wpAny (model PySem.Challenge.pw_qw0044_01 w) A (PySem.call (.ref q) ([] ++ [])) Q E s := by
  refine Classical.byContradiction fun hn9 => ?_
  obtain ⟨pre, post, e1, e2, a, b⟩ := U.split
  refine hn9 ?_
  clear hn9
  have hp : s.heap.get? p = some (pileObj d [] n) := (N (p, _) (by rw [e1]; exact List.mem_append.mpr (.inr (.head _)))).1
  have hb : checkBoundCall "list.__init__" ⟨[.ref p], []⟩ = pure () := by kernel_rfl
  refine wpAny_call (bm_call (N _ hq).1 (by decide) (by decide) (plainId_quiet PySem.F.slot_list_init.plain _) (wpAny_of_eq hb ?_))
  refine codeAny_builtin PySem.F.entry_list_init ?_
  rw [Around.under_plainId PySem.F.slot_list_init.plain]
  have ef : Obj.mapSeq (fun _ => #[]) (pileObj d [] n) = pileObj d [] n := rfl
  have q := pile_set F N U ef
  unfold Builtin.«list.__init__» Builtin.List.listItems seqItems?
  repeat (first | (with_reducible refine wpAny_updateSeq hp rfl ?_ (by decide) (by decide)) | (with_reducible refine wpAny_load hp ?_) | (simp only [Bool.not_true, Bool.false_eq_true, if_false, List.isEmpty_nil, List.length_nil]) | wp_step | dsimp only)
  all_goals exact h _ q.1 q.2
end
section
variable {w : World} {A : Around} {E : Value → Shared → Prop} {s : Shared} {p d q : Addr} {its : List Value} {n : Nat} {Q : Value → Shared → Prop}
theorem fin3 (fin : ∀ tk, Q (.int its.toArray.size tk) { s with toks := s.toks + 1 }) {tk : Nat} : Q (.int its.toArray.size tk) { s with toks := s.toks + 1 } := fin tk
local macro_rules | `(tactic| x_close) => `(tactic| exact fin3 (by assumption))
theorem len_bm_x (KX : (hd.heap_1 w.params).In s.heap) (hp : s.heap.get? p = some ⟨.ref 101, some d, .seq its.toArray n, #[]⟩) (hq : s.heap.get? q = some ⟨.type "method-wrapper", none, .fields #[.builtin "list.__len__", .ref p], #[]⟩)
    (fin : ∀ tk, Q (.int its.toArray.size tk) { s with toks := s.toks + 1 }) :
    wpAny (model PySem.Challenge.pw_qw0044_01 w) A (PySem.call (.ref q) []) Q E s := by
  x_run
end
end Mine
end

section
open PySem PySem.W PyProof.Rows
namespace Mine
local macro_rules | `(tactic| walk_at "no goal") => `(tactic| skip)
theorem freshL6 : True ∧ True := by
  k_with_none
  w_top off
  first | (walk1; done) | exact ⟨trivial, trivial⟩
end Mine
end

/-! part L6 -/
section
open PySem PySem.W PySem.W.X PyProof.Rows PySem.Calls
set_option maxRecDepth 100000
set_option maxHeartbeats 8000000
namespace Mine
section
variable {w : World} {A : Around} {E : Value → Shared → Prop} {s : Shared} {p d L q : Addr} {h₀ : Heap} {m : Str → Option Value} {news news' : List (Addr × Obj)} {its : List Value} {n : Nat} {v : Value}
theorem mro101 (P : Params) : ∃ cd, clsIn (hd.heap_1 P) 101 = some cd ∧ cd.mro = [.ref 101, .type "list", .type "object"] ∧ cd.hasDict = true := by
  have hq : (clsIn (hd.heap_1 P) 101).map (fun c => (c.mro, c.hasDict)) = some ([.ref 101, .type "list", .type "object"], true) := by kernel_rfl
  obtain ⟨cd, hcd, e⟩ := Option.map_eq_some_iff.mp hq
  exact ⟨cd, hcd, congrArg Prod.fst e, congrArg Prod.snd e⟩
/-- self._initial_size = .. in __init__ -/
theorem pile_setattr {Q : Unit → Shared → Prop} (F : Fr h₀ L s.heap m) (X₀ : (hd.heap_1 w.params).In h₀) (N : News h₀ L s.heap news) (h1 : (p, pileObj d its n) ∈ news)
    (U : Upd d (dictOf [] 0) (dictOf [⟨PyData.keyHash w.params "_initial_size", .str "_initial_size" (s.toks + 1), v⟩] 1) news news')
    (h : ∀ h', Fr h₀ L h' m → News h₀ L h' news' → Q () { s with heap := h', toks := s.toks + 2 }) :
    wpAny (model PySem.Challenge.pw_qw0044_01 w) A (setAttr (.ref p) "_initial_size" v) Q E s := by
  obtain ⟨pre, post, rfl, rfl, a, b⟩ := U.split
  have X := X₀.keeps F.keep
  have hdm : (d, dictOf [] 0) ∈ pre ++ (d, dictOf [] 0) :: post := by simp
  have I := pile_inst N h1 hdm
  have SF := PySem.F.store_object
  obtain ⟨cd, hc, hmro, hdict⟩ := mro101 w.params
  refine set_plain X I (by kernel_rfl) ?_
  have sub : Looks (model PySem.Challenge.pw_qw0044_01 w) s.heap (isInstance (.ref p) (.type "object")) true := I.type.andThen (looks_mroIn X (by kernel_rfl))
  have hm : Looks (model PySem.Challenge.pw_qw0044_01 w) s.heap (mroOf (.ref 101)) cd.mro := (looks_clsIn X hc).andThen .now
  have href : refuseLoop (.ref p) "__setattr__" cd.mro = pure () := by rw [hmro, refuseLoop_ref]; kernel_rfl
  have hx := (N _ h1).1
  have D := (N _ hdm).1
  obtain ⟨U1, U2⟩ := news_upd (f := Obj.putName "_initial_size" (PyData.keyHash w.params "_initial_size") (.str "_initial_size" (s.toks + 1)) v) (o' := dictOf [⟨PyData.keyHash w.params "_initial_size", .str "_initial_size" (s.toks + 1), v⟩] 1) F N a b rfl rfl
  have D' := (U2 _ (List.mem_append.mpr (.inr (.head _)))).1
  obtain ⟨hh, g, dr, tk, os⟩ := s
  refine codeAny_call_builtin SF.slot.plain SF.entry (@check_slot _ _ _ _ "object.__setattr__" "object" "__setattr__" (.ref p) [.str "_initial_size" tk, v] [] _ SF.kind SF.split sub (SF.args (.ref p) (.str "_initial_size" tk) v) ?_)
  rw [osa_eq, refuse_eq]
  refine wpAny_bind (wpAny_bind (I.type.at (wpAny_bind (hm.at ?_))))
  rw [href]
  refine wpAny_pure (wpAny_bind (I.type.at (wpAny_bind ((looks_findIn X (r := none) (by kernel_rfl)).at (wpAny_bind (wpAny_pure ?_))))))
  show wpAny _ _ (Builtin.ObjectAttr.storeInOwnDict (.ref p) (.ref 101) (.str "_initial_size" tk) "_initial_size" v false) _ _ _
  refine wpAny_bind (wpAny_pure (wpAny_bind (wpAny_bind (wpAny_loadPart hx (wpAny_bind ((looks_clsIn X hc).at ?_))))))
  rw [hdict]
  refine wpAny_pure (a := some d) (wpAny_bind (wpAny_pure (wpAny_bind ?_)))
  unfold nsSet
  refine wpAny_bind (wpAny_bind (wpAny_askSetting (wpAny_pure (wpAny_bind (wpAny_mkText (wpAny_bind (wpAny_loadPart D ?_)))))))
  refine wpAny_updatePart D ?_
  refine wpAny_bind (wpAny_lookBehind D' (pastItsLine_dict (by rw [sizeLine_eq]; show 1 ≤ _; omega)) ?_)
  exact wpAny_pure (h _ U1 U2)
end
end Mine
end

section
open PySem PySem.W PyProof.Rows
namespace Mine
local macro_rules | `(tactic| walk_at "no goal") => `(tactic| skip)
theorem freshL7 : True ∧ True := by
  k_with_none
  w_top off
  first | (walk1; done) | exact ⟨trivial, trivial⟩
end Mine
end

/-! part L7 -/
section
open PySem PySem.W PySem.W.X PyProof.Rows
set_option maxRecDepth 100000
namespace Mine
theorem sup_file : ((PySem.Challenge.pw_qw0044_01.main.file : Str) == Str.ofString "/claim/cut.py") = true := by decide +kernel
theorem sup_top : (PySem.Challenge.pw_qw0044_01.main.scope.names.lookup ("super" : Str)).isSome = false := by decide +kernel
theorem sup_boot : bootBuiltins "super" = some (.type "super") := by first | boot_by_name | kernel_rfl
theorem sup_cls (P : Params) : (clsIn (hd.heap_1 P) 101).isSome = true := by kernel_rfl
theorem sup_sub (P : Params) : mroIn (hd.heap_1 P) 101 (.ref 101) = some true := by kernel_rfl
theorem sup_ns (P : Params) : nsIn (hd.heap_1 P) mainGlobals "super" = some none := by kernel_rfl

def asFn (o : Option Obj) : Option FuncData := match o with | some ⟨_, _, .func fd, _⟩ => some fd | _ => none
def asVs (o : Option Obj) : Option (Array Value) := match o with | some ⟨_, _, .fields vs, _⟩ => some vs | _ => none
def asCl (o : Option Obj) : Option Addr := match o with | some ⟨_, _, .cell (some (.ref D)), _⟩ => some D | _ => none
theorem asFn_some {o : Option Obj} {fd : FuncData} (h : asFn o = some fd) : ∃ oc od sl, o = some ⟨oc, od, .func fd, sl⟩ := by
  unfold asFn at h
  split at h
  · cases h; exact ⟨_, _, _, rfl⟩
  · cases h
theorem asVs_some {o : Option Obj} {vs : Array Value} (h : asVs o = some vs) : ∃ oc od sl, o = some ⟨oc, od, .fields vs, sl⟩ := by
  unfold asVs at h
  split at h
  · cases h; exact ⟨_, _, _, rfl⟩
  · cases h
theorem asCl_some {o : Option Obj} {D : Addr} (h : asCl o = some D) : ∃ oc od sl, o = some ⟨oc, od, .cell (some (.ref D)), sl⟩ := by
  unfold asCl at h
  split at h
  · cases h; exact ⟨_, _, _, rfl⟩
  · cases h
def supOk (K : Frag) (f cda cc : Addr) : Bool :=
  match asFn (K.lookup f), asVs (K.lookup cda), asCl (K.lookup cc) with
  | some fd, some vs, some D =>
    D == 101 && (match (fd.params.posonlyargs ++ fd.params.args).head? with | some ar => ar.arg == Str.ofString "self" | none => false)
      && (match (vs[2]? : Option Value) with | some (Value.str file _) => file == Str.ofString "/claim/cut.py" | _ => false)
  | _, _, _ => false

section
variable {w : World} {A : Around} {E : Value → Shared → Prop} {s : Shared} {x d L : Addr} {h₀ : Heap} {m : Str → Option Value} {news : List (Addr × Obj)} {its : List Value} {n : Nat}

theorem sup_pile {p : Program} {loose : List Str} {mean : ExcName → Option Value} {mg mb : Str → Option Value} {f cda cc : Addr} {od : Obj} {body : List Stmt} {q : Str} {scope : Scope} {p0 p1 : Pos} {attr : Str} {whole : Sem Value} {Q : Value → Shared → Prop}
    (F : Fr h₀ L s.heap m) (X₀ : (hd.heap_1 w.params).In h₀) (N : News h₀ L s.heap news) (T : Top p loose mean mg mb h₀)
    (hok : supOk (hd.heap_1 w.params) f cda cc = true) (hv : m (Str.ofString "self") = some (.ref x)) (h1 : (x, pileObj d its n) ∈ news) (h2 : (d, od) ∈ news)
    (hat : (attr == ("__class__" : Str)) = false) (hks : scope.names.lookup ("super" : Str) = some .globalImplicit) (hkc : scope.names.lookup ("__class__" : Str) = some .free) (hka : scope.names.lookup (Str.ofString "self") = some .local) (hk : scope.kind = .function)
    (h : ∀ so h', Fr h₀ L h' m → News h₀ L h' ((so, ks_superObj 101 x 101) :: news) → (∀ p ∈ news, p.1 < so) → Q (.ref so) { s with heap := h' }) :
    _root_.PySem.wpAt (model PySem.Challenge.pw_qw0044_01 w) A (.func body (ksEnv q scope L f (.ref cda) cc)) (attributeBase (.Call (.Name "super" p0) [] [] p1) attr (ksEnv q scope L f (.ref cda) cc) whole) Q E s := by
  unfold supOk at hok
  cases q1 : asFn ((hd.heap_1 w.params).lookup f) with
  | none => rw [q1] at hok; cases hok
  | some fd =>
  cases q2 : asVs ((hd.heap_1 w.params).lookup cda) with
  | none => rw [q1, q2] at hok; cases hok
  | some vs =>
  cases q3 : asCl ((hd.heap_1 w.params).lookup cc) with
  | none => rw [q1, q2, q3] at hok; cases hok
  | some D =>
  rw [q1, q2, q3] at hok
  dsimp only at hok
  obtain ⟨oc, od', osl, e1⟩ := asFn_some q1
  obtain ⟨ccl, cdd, ccs, e2⟩ := asVs_some q2
  obtain ⟨cl, cld, csl, e3⟩ := asCl_some q3
  simp only [Bool.and_eq_true] at hok
  obtain ⟨⟨hD, hs⟩, hf⟩ := hok
  obtain rfl : D = 101 := by simpa using hD
  cases e4 : (fd.params.posonlyargs ++ fd.params.args).head? with
  | none => rw [e4] at hs; cases hs
  | some ar =>
    rw [e4] at hs
    dsimp only at hs
    split at hf
    · rename_i file tf e5
      have hs' : ar.arg = Str.ofString "self" := by simpa using hs
      have hf' : file = Str.ofString "/claim/cut.py" := by simpa using hf
      obtain ⟨cdD, hcd⟩ := Option.isSome_iff_exists.mp (sup_cls w.params)
      exact ks_node F X₀ N T e1 e4 (by rw [hs']; exact hv) (pile_inst N h1 h2) e2 e5 (by rw [hf']; exact sup_file) e3 hcd (sup_sub _) (sup_ns _) hat hks hkc (by rw [hs']; exact hka) hk sup_top sup_boot h
    · cases hf
end
theorem sup_pop (P : Params) : supOk (hd.heap_1 P) 61 60 25 = true := by kernel_rfl
theorem sup_len (P : Params) : supOk (hd.heap_1 P) 98 97 25 = true := by kernel_rfl
theorem al_init (P : Params) : alongIn (hd.heap_1 P) (Str.ofString "__init__") [.type "list", .type "object"] = some (some (.builtin "list.__init__")) := by kernel_rfl
theorem al_pop (P : Params) : alongIn (hd.heap_1 P) (Str.ofString "pop") [.type "list", .type "object"] = some (some (.builtin "list.pop")) := by kernel_rfl
theorem al_len (P : Params) : alongIn (hd.heap_1 P) (Str.ofString "__len__") [.type "list", .type "object"] = some (some (.builtin "list.__len__")) := by kernel_rfl
theorem sup_init (P : Params) : supOk (hd.heap_1 P) 38 37 25 = true := by kernel_rfl
end Mine
end

section
open PySem PySem.W PyProof.Rows
namespace Mine
local macro_rules | `(tactic| walk_at "no goal") => `(tactic| skip)
local macro_rules | `(tactic| walk_at "no goal") => `(tactic| skip)
theorem freshC1 : True ∧ True := by
  k_with_none
  w_top off
  first | (walk1; done) | exact ⟨trivial, trivial⟩
end Mine
end

/-! part C1 -/
section
open PySem PySem.W PySem.W.X PyProof.Rows
set_option maxRecDepth 100000
set_option maxHeartbeats 4000000
namespace Mine
local macro_rules | `(tactic| walk_at $s:str) => `(tactic| k_extra $s)
theorem room_in1 {A : Around} {n : Nat} (h : A.depth < n) : A.in1.depth < n := by simpa only [depth_in1] using h
local macro_rules | `(tactic| k_room) => `(tactic| ((try simp only [depth_under_make, depth_under_kw, depth_in1, depth_deeper, depth_caller]); first | decide | (have : recursionLimit = 1000 := by decide
                                                                                                                                                                 omega)))
local macro_rules | `(tactic| k_inst) => `(tactic| exact pile_inst (by k_asm) (by k_mem) (by k_mem))
abbrev pairObj (a b : Value) : Obj := { cls := .type "tuple", data := .seq [a, b].toArray }
abbrev iniD (w : World) (tn : Tok) (v : Value) : Obj := dictOf [⟨PyData.keyHash w.params "_initial_size", .str (Str.ofString "_initial_size") tn, v⟩] 1
theorem ga_pile (P : Params) : findIn (hd.heap_1 P) (.ref 101) "__getattribute__" = some (some (.builtin "list.__getattribute__")) := by kernel_rfl
theorem gk_pile (P : Params) : findIn (hd.heap_1 P) (.ref 101) "__getattr__" = some none := by kernel_rfl
theorem can_list : (Manifest.canonical "list.__getattribute__" != "object.__getattribute__") = false := by decide +kernel
theorem method_pl {prog : Program} {w : World} {A : Around} {E : Value → Shared → Prop} {s : Shared} {x : Addr} {ox : Obj} {od : Option Obj} {name : Str} {v : Value} {ty : String} {pl : Sem Bool} {Q : Value × List Value → Shared → Prop} (X : (hd.heap_1 w.params).In s.heap) (I : InstAt s.heap x ox 101 od)
    (hf : findIn (hd.heap_1 w.params) (.ref 101) name = some (some v)) (ht : Looks (model prog w) s.heap (typeOf v) (.type ty)) (hty : (ty == "method_descriptor" || ty == "function") = true) (hs : shadowIn od name = some false) (h : Q (v, [.ref x]) s) :
    wpAny (model prog w) A (getMethod (.ref x) name pl) Q E s := by
  have hcan := can_list
  unfold getMethod specialOf
  refine wpAny_bind (wpAny_bind (I.type.here ((looks_findIn X (ga_pile _)).here ?_)))
  dsimp only
  rw [hcan, if_neg (by decide)]
  refine wpAny_bind (wpAny_bind (I.type.here ((looks_findIn X (gk_pile _)).here ?_)))
  refine wpAny_bind (wpAny_bind (I.type.here ((looks_findIn X hf).here (wpAny_bind (ht.here ?_)))))
  have hc : ∀ b : Bool, ((Value.type ty != Value.type "function" && Value.type ty != Value.type "method_descriptor" && b) = false) := by
    intro b
    rcases Bool.or_eq_true_iff.mp hty with e | e <;> (have e' := beq_iff_eq.mp e; subst e'; cases b <;> decide)
  first
    | rw [if_neg (by rw [hc]; decide)]
    | (have hc' : ∀ b : Bool, ((Value.type ty != Value.type "method_descriptor" && Value.type ty != Value.type "function" && b) = false) := by
        intro b
        rcases Bool.or_eq_true_iff.mp hty with e | e <;> (have e' := beq_iff_eq.mp e; subst e'; cases b <;> decide)
       rw [if_neg (by rw [hc']; decide)])
  refine wpAny_bind (wpAny_loadPart I.at_ ?_)
  have fin : wpAny (model prog w) A (do rule "call.method-form"; pure (v, [Value.ref x])) Q E s := wpAny_bind (wpAny_rule (wpAny_pure h))
  obtain ⟨oc, od', odt, osl⟩ := ox
  have hd := I.dict
  cases od' with
  | none => exact fin
  | some dx =>
    cases od with
    | none => exact hd.elim
    | some o =>
      obtain ⟨r, a, b⟩ := Option.map_eq_some_iff.mp hs
      refine wpAny_bind (wpAny_bind (wpAny_loadPart hd ?_))
      rw [nsLook_of a]
      refine wpAny_pure ?_
      rw [b]
      exact fin
theorem sh_pile {w : World} {tn : Tok} {v : Value} {name : Str} (h : getL name [⟨PyData.keyHash w.params "_initial_size", .str (Str.ofString "_initial_size") tn, v⟩] = some none) : shadowIn (some (iniD w tn v)) name = some false := by
  show (lookIn name (dictOf _ 1)).map _ = _
  rw [lookIn_dict, h]; rfl
theorem fi_append (P : Params) : findIn (hd.heap_1 P) (.ref 101) (Str.ofString "append") = some (some (.builtin "list.append")) := by kernel_rfl
theorem ty_append : typeOf (.builtin "list.append") = pure (.type "method_descriptor") := by kernel_rfl
theorem gl_append {k : Int} {tn : Tok} {v : Value} : getL (Str.ofString "append") [⟨k, .str (Str.ofString "_initial_size") tn, v⟩] = some none := by rfl
theorem pile_m_append {prog : Program} {w : World} {A : Around} {E : Value → Shared → Prop} {s : Shared} {p d L : Addr} {h₀ : Heap} {m : Str → Option Value} {news : List (Addr × Obj)} {its : List Value} {n : Nat} {tn : Tok} {v : Value} {pl : Sem Bool} {Q : Value × List Value → Shared → Prop} (F : Fr h₀ L s.heap m) (X₀ : (hd.heap_1 w.params).In h₀) (N : News h₀ L s.heap news)
    (h1 : (p, pileObj d its n) ∈ news) (h2 : (d, iniD w tn v) ∈ news) (h : Q (.builtin "list.append", [.ref p]) s) : wpAny (model prog w) A (getMethod (.ref p) (Str.ofString "append") pl) Q E s :=
  method_pl (X₀.keeps F.keep) (pile_inst N h1 h2) (fi_append _) (Looks.of_pure ty_append) (by decide) (sh_pile gl_append) h
section
variable {w : World} {A A₀ : Around} {base h₀ : Heap} {outer : List Env} {env : Env} {E : Value → Shared → Prop} {s : Shared} {p d L : Addr} {m mg mb : Str → Option Value} {rest : List (Addr × Obj)} {its : List Value} {n : Nat} {pp : Program} {loose : List Str} {mean : ExcName → Option Value} {Q : Value → Shared → Prop}
theorem push_K {s1 s2 : Str} {t1 t2 tn : Tok} {v : Value}
    (B : Below A₀ base outer h₀) (F : Fr h₀ L s.heap m) (KX : (hd.heap_1 w.params).In h₀) (N : News h₀ L s.heap ((p, pileObj d its n) :: (d, iniD w tn v) :: rest)) (T : Top pp loose mean mg mb h₀)
    (hA : A.frames = some (env :: outer)) (hf : env.frame = some L) (hke : env.scope.kind = .function) (hroom : A.depth < 900) (hlen : its.length ≤ 900) (hpr : ∀ r ∈ (d, iniD w tn v) :: rest, r.1 ≠ p)
    (h : ∀ q h' tk, Fr h₀ L h' m → News h₀ L h' ((q, pairObj (.str s1 t1) (.str s2 t2)) :: (p, pileObj d (its ++ [.ref q]) (n + 1)) :: (d, iniD w tn v) :: rest) → AllLt q ((p, pileObj d its n) :: (d, iniD w tn v) :: rest) → Q .none { s with heap := h', toks := tk }) :
    wpAny (model PySem.Challenge.pw_qw0044_01 w) A (PySem.call (.ref 45) [.ref p, .str s1 t1, .str s2 t2]) Q E s := by
  k_with_none
  k_with "getMethod ref" => ((k_here; (with_reducible show wpAny _ _ (getMethod (Value.ref _) (PySem.Str.ofString "append") _) _ _ _); k_dflt (refine' pile_m_append ?F ?X ?N ?h1 ?h2 ?_; (case F => k_asm); (case X => k_asm); (case N => k_asm); (case h1 => k_mem); (case h2 => k_mem))))
  k_with "call builtin:list.append" => ((k_here; (with_reducible show wpAny _ _ (PySem.call (Value.builtin _) [Value.ref _, _]) _ _ _); k_dflt (refine' pile_append ?F ?X ?N ?m ?U ?z ?_; (case F => k_asm); (case X => k_asm); (case N => k_asm); (case m => exact mro_list _); (case U => first | exact Upd.tail (by k_ne) (Upd.head (by assumption)) | k_upd); (case z => first | decide | omega)); intro h'9k F'9k N'9k; (try dsimp only [List.nil_append, List.cons_append] at N'9k); (try k_sweep)))
  have := PySem.Challenge.rw_qw0044_01
  revert KX
  have h0 : PySem.Challenge.rw_qw0044_01.Holds ∨ True := .inr trivial
  revert h0
  k_fill
  intro h0 KX
  clear h0 this
  refine wpAny_call ?_
  refine' code_def B F KX N T hA hf hke ?k6 ?k7 ?k8 ?k9 ?kB ?_ ?c2 ?c3 ?c4 ?c5
  case k6 => k_is
  case k7 => k_is
  case k8 => k_room
  case k9 => exact BindsTo.of_eq rfl
  case kB => exact locs rfl
  case c2 => rfl
  case c3 => rfl
  case c4 => rfl
  case c5 => decide
  intro g' L' h' FG' F' N' B' X' T'
  (try dsimp only)
  (try k_lift B')
  k_steps
  exact h _ _ _ (by assumption) (by assumption) (by assumption)
end
end Mine
end

section
open PySem PySem.W PyProof.Rows
namespace Mine
local macro_rules | `(tactic| walk_at "no goal") => `(tactic| skip)
local macro_rules | `(tactic| walk_at "no goal") => `(tactic| skip)
theorem freshC2 : True ∧ True := by
  k_with_none
  w_top off
  first | (walk1; done) | exact ⟨trivial, trivial⟩
end Mine
end

/-! part C2 -/
section
open PySem PySem.W PySem.W.X PyProof.Rows
set_option maxRecDepth 100000
set_option maxHeartbeats 4000000
namespace Mine
local macro_rules | `(tactic| walk_at $s:str) => `(tactic| k_extra $s)
local macro_rules | `(tactic| k_room) => `(tactic| ((try simp only [depth_under_make, depth_under_kw, depth_in1, depth_deeper, depth_caller]); first | decide | (have : recursionLimit = 1000 := by decide
                                                                                                                                                                 omega)))
local macro_rules | `(tactic| k_inst) => `(tactic| exact pile_inst (by k_asm) (by k_mem) (by k_mem))
theorem News.drop1 {h₀ h : Heap} {L : Addr} {a : Addr × Obj} {l : List (Addr × Obj)} (N : News h₀ L h (a :: l)) : News h₀ L h l := fun p hp => N p (.tail _ hp)
theorem len_bm_K {w : World} {A : Around} {E : Value → Shared → Prop} {s : Shared} {p d q L : Addr} {h₀ : Heap} {m : Str → Option Value} {news : List (Addr × Obj)} {its : List Value} {n : Nat} {Q : Value → Shared → Prop}
    (F : Fr h₀ L s.heap m) (X₀ : (hd.heap_1 w.params).In h₀) (N : News h₀ L s.heap news) (h1 : (p, pileObj d its n) ∈ news) (h2 : (q, bmObj "method-wrapper" "list.__len__" p) ∈ news)
    (h : ∀ tk, Q (.int its.toArray.size tk) { s with toks := s.toks + 1 }) : wpAny (model PySem.Challenge.pw_qw0044_01 w) A (PySem.call (.ref q) ([] ++ [])) Q E s :=
  len_bm_x (X₀.keeps F.keep) (N _ h1).1 (N _ h2).1 h
section
variable {w : World} {A A₀ : Around} {base h₀ : Heap} {outer : List Env} {env : Env} {E : Value → Shared → Prop} {s : Shared} {p d L : Addr} {m mg mb : Str → Option Value} {rest : List (Addr × Obj)} {its : List Value} {n : Nat} {pp : Program} {loose : List Str} {mean : ExcName → Option Value} {Q : Value → Shared → Prop}
theorem count_K {tn : Tok} {v : Value}
    (B : Below A₀ base outer h₀) (F : Fr h₀ L s.heap m) (KX : (hd.heap_1 w.params).In h₀) (N : News h₀ L s.heap ((p, pileObj d its n) :: (d, iniD w tn v) :: rest)) (T : Top pp loose mean mg mb h₀)
    (hA : A.frames = some (env :: outer)) (hf : env.frame = some L) (hke : env.scope.kind = .function) (hroom : A.depth < 900)
    (h : ∀ h' ti tk, Fr h₀ L h' m → News h₀ L h' ((p, pileObj d its n) :: (d, iniD w tn v) :: rest) → Q (.int its.toArray.size ti) { s with heap := h', toks := tk }) :
    wpAny (model PySem.Challenge.pw_qw0044_01 w) A (PySem.call (.ref 98) [.ref p]) Q E s := by
  k_with_none
  k_with "wpAt" => ((ks_step "exec Return"; k_dflt (refine ks_wpAt_Return_some ?_)))
  k_with "wpAt" => ((ks_step "eval Call"; k_dflt (refine ks_wpAt_MethodCall ?_)))
  k_with "wpAt" => ((ks_step "attributeBase Call"; k_here; k_dflt (refine' sup_pile ?F ?X ?N ?T ?ok ?v ?h1 ?h2 ?ka ?s1 ?s2 ?s3 ?s4 ?_; (case F => k_asm); (case X => k_asm); (case N => k_asm); (case T => k_asm); (case ok => first | exact sup_len _ | exact sup_pop _ | exact sup_init _); (case v => rfl); (case h1 => k_mem); (case h2 => k_mem); (case ka => decide); (case s1 => rfl); (case s2 => rfl); (case s3 => rfl); (case s4 => rfl); intro so'9k h'9k F'9k N'9k l19k; (try k_lt l19k); (try dsimp only))))
  k_with "getMethod ref" => ((k_here; (with_reducible show wpAny _ _ (getMethod (Value.ref _) (PySem.Str.ofString "__len__") _) _ _ _); k_dflt (refine' super_pile ?F ?X ?N ?h1 ?h2 (id := "list.__len__") (TD := "wrapper_descriptor") (gid := "wrapper_descriptor.__get__") (C := "method-wrapper") ?f ?t ?gg ?n ?x ?_; (case F => k_asm); (case X => k_asm); (case N => k_asm); (case h1 => k_mem); (case h2 => k_mem); (case f => exact al_len _); (case t => kernel_rfl); (case gg => kernel_rfl); (case n => decide); (case x => exact get_len_x)); intro q'9k h'9k F'9k N'9k l19k; (replace l19k := allNe_of l19k); (simp only [AllNe, and_true] at l19k); (try dsimp only)))
  k_with "callWith ref" => ((k_here; k_dflt (refine' callWith_bm ?N ?q ?c ?m ?_; (case N => k_asm); (case q => k_mem); (case c => decide); (case m => decide)); (try dsimp only)))
  k_with "call ref" => ((k_here; k_dflt (refine' len_bm_K ?F ?X ?N ?h1 ?h2 ?_; (case F => k_asm); (case X => k_asm); (case N => k_asm); (case h1 => k_mem); (case h2 => k_mem)); intro tk'9k; (try dsimp only)))
  revert KX
  have h0 : PySem.Challenge.rw_qw0044_01.Holds ∨ True := .inr trivial
  revert h0
  k_fill
  intro h0 KX
  clear h0
  refine wpAny_call ?_
  refine' ks_code_super B F KX N T hA hf hke ?k6 ?k7 ?k8 ?k9 ?kB ?_ ?c2 ?c3 ?c4 ?c5
  case k6 => k_is
  case k7 => k_is
  case k8 => k_room
  case k9 => exact BindsTo.of_eq rfl
  case kB => exact locs rfl
  case c2 => decide
  case c3 => rfl
  case c4 => rfl
  case c5 => rfl
  intro g' L' h' FG' F' N' B' X' T' l1
  (try k_lt l1)
  (try dsimp only)
  (try k_lift B')
  k_steps
  exact h _ _ _ (by assumption) (News.drop1 (News.drop1 (by assumption)))

theorem fi_count (P : Params) : findIn (hd.heap_1 P) (.ref 101) (Str.ofString "part_count") = some (some (.ref 98)) := by kernel_rfl
theorem fn_of {K : Frag} {h : Heap} {M : Model} (X : K.In h) {f : Addr} (hc : (K.lookup f).map Obj.cls = some (.type "function")) : Looks M h (typeOf (.ref f)) (.type "function") := by
  obtain ⟨o, a, b⟩ := Option.map_eq_some_iff.mp hc
  obtain ⟨oc, od, odt, osl⟩ := o
  cases b
  exact (Looks.ld (X _ _ a)).andThen .now
theorem fc_98 (P : Params) : ((hd.heap_1 P).lookup 98).map Obj.cls = some (.type "function") := by kernel_rfl
theorem pile_m_count {prog : Program} {news : List (Addr × Obj)} {tn : Tok} {v : Value} {pl : Sem Bool} {Q : Value × List Value → Shared → Prop} (F : Fr h₀ L s.heap m) (X₀ : (hd.heap_1 w.params).In h₀) (N : News h₀ L s.heap news)
    (h1 : (p, pileObj d its n) ∈ news) (h2 : (d, iniD w tn v) ∈ news) (h : Q (.ref 98, [.ref p]) s) : wpAny (model prog w) A (getMethod (.ref p) (Str.ofString "part_count") pl) Q E s :=
  method_pl (X₀.keeps F.keep) (pile_inst N h1 h2) (fi_count _) (fn_of (X₀.keeps F.keep) (fc_98 _)) (by decide) (sh_pile (by rfl)) h
end
end Mine
end

section
open PySem PySem.W PyProof.Rows
namespace Mine
local macro_rules | `(tactic| walk_at "no goal") => `(tactic| skip)
local macro_rules | `(tactic| walk_at "no goal") => `(tactic| skip)
theorem freshC3 : True ∧ True := by
  k_with_none
  w_top off
  first | (walk1; done) | exact ⟨trivial, trivial⟩
end Mine
end

/-! part C3 -/
section
open PySem PySem.W PySem.W.X PyProof.Rows
set_option maxRecDepth 100000
set_option maxHeartbeats 4000000
namespace Mine
local macro_rules | `(tactic| omega) => `(tactic| lia)
local macro_rules | `(tactic| walk_at $s:str) => `(tactic| k_extra $s)
local macro_rules | `(tactic| k_room) => `(tactic| ((try simp only [depth_under_make, depth_under_kw, depth_in1, depth_deeper, depth_caller]); first | decide | (have : recursionLimit = 1000 := by decide
                                                                                                                                                                 omega)))
local macro_rules | `(tactic| k_inst) => `(tactic| exact pile_inst (by k_asm) (by k_mem) (by k_mem))
section
variable {w : World} {A A₀ : Around} {base h₀ : Heap} {outer : List Env} {env : Env} {E : Value → Shared → Prop} {s : Shared} {p d L : Addr} {m mg mb : Str → Option Value} {rest : List (Addr × Obj)} {its : List Value} {n : Nat} {pp : Program} {loose : List Str} {mean : ExcName → Option Value} {Q : Value → Shared → Prop}
theorem pop_K {tn : Tok} {v x : Value}
    (B : Below A₀ base outer h₀) (F : Fr h₀ L s.heap m) (KX : (hd.heap_1 w.params).In h₀) (N : News h₀ L s.heap ((p, pileObj d (its ++ [x]) n) :: (d, iniD w tn v) :: rest)) (T : Top pp loose mean mg mb h₀)
    (hA : A.frames = some (env :: outer)) (hf : env.frame = some L) (hke : env.scope.kind = .function) (hroom : A.depth < 800) (hlen : its.length ≤ 900) (hpr : ∀ r ∈ (d, iniD w tn v) :: rest, r.1 ≠ p)
    (h : ∀ h' tk, Fr h₀ L h' m → News h₀ L h' ((p, pileObj d its (n + 1)) :: (d, iniD w tn v) :: rest) → Q x { s with heap := h', toks := tk }) :
    wpAny (model PySem.Challenge.pw_qw0044_01 w) A (PySem.call (.ref 61) [.ref p]) Q E s := by
  k_with_none
  k_with "wpAt" => ((ks_step "exec Return"; k_dflt (refine ks_wpAt_Return_some ?_)))
  k_with "wpAt" => ((ks_step "eval Call"; k_dflt (refine ks_wpAt_MethodCall ?_)))
  k_with "wpAt" => ((ks_step "attributeBase Call"; k_here; k_dflt (refine' sup_pile ?F ?X ?N ?T ?ok ?v ?h1 ?h2 ?ka ?s1 ?s2 ?s3 ?s4 ?_; (case F => k_asm); (case X => k_asm); (case N => k_asm); (case T => k_asm); (case ok => first | exact sup_pop _ | exact sup_init _ | exact sup_len _); (case v => rfl); (case h1 => k_mem); (case h2 => k_mem); (case ka => decide); (case s1 => rfl); (case s2 => rfl); (case s3 => rfl); (case s4 => rfl); intro so'9k h'9k F'9k N'9k l19k; (try k_lt l19k); (try dsimp only))))
  k_with "wpAt" => ((dsimp only; ks_step "execs cons"; refine ks_wpAt_execs_cons ?_))
  k_with "getMethod ref" => ((k_here; (with_reducible show wpAny _ _ (getMethod (Value.ref _) (PySem.Str.ofString "pop") _) _ _ _); k_dflt (refine' super_pile ?F ?X ?N ?h1 ?h2 (id := "list.pop") (TD := "method_descriptor") (gid := "method_descriptor.__get__") (C := "builtin_function_or_method") ?f ?t ?gg ?n ?x ?_; (case F => k_asm); (case X => k_asm); (case N => k_asm); (case h1 => k_mem); (case h2 => k_mem); (case f => exact al_pop _); (case t => kernel_rfl); (case gg => kernel_rfl); (case n => decide); (case x => exact get_pop_x)); intro q'9k h'9k F'9k N'9k l19k; (replace l19k := allNe_of l19k); (simp only [AllNe, and_true] at l19k); (try dsimp only)))
  k_with "getMethod ref" => ((k_here; (with_reducible show wpAny _ _ (getMethod (Value.ref _) (PySem.Str.ofString "part_count") _) _ _ _); k_dflt (refine' pile_m_count ?F ?X ?N ?h1 ?h2 ?_; (case F => k_asm); (case X => k_asm); (case N => k_asm); (case h1 => k_mem); (case h2 => k_mem)); (try dsimp only)))
  k_with "callWith ref" => ((k_here; k_dflt (refine' callWith_bm ?N ?q ?c ?m ?_; (case N => k_asm); (case q => k_mem); (case c => decide); (case m => decide)); (try dsimp only)))
  k_with "call ref" => ((k_here; k_dflt (refine' pop_bm ?F ?X ?N ?q ?U ?z ?_; (case F => k_asm); (case X => k_asm); (case N => k_asm); (case q => k_mem); (case U => exact Upd.tail (by k_ne) (Upd.tail (by k_ne) (Upd.head (by assumption)))); (case z => omega)); intro h'9k F'9k N'9k; (try dsimp only)))
  k_with "call ref" => ((k_here; (with_reducible show wpAny _ _ (PySem.call (Value.ref 98) _) _ _ _); k_dflt (refine' count_K ?B ?F ?X ?N ?T ?hA ?hf ?hke ?hr ?_; (case B => k_asm); (case F => k_asm); (case X => k_asm); (case N => k_asm); (case T => k_asm); (case hA => first | exact rfl | exact Around.frames_deeper (by assumption)); (case hf => exact rfl); (case hke => exact rfl); (case hr => (simp only [depth_deeper]; omega))); intro h'9k ti'9k tk'9k F'9k N'9k; (try dsimp only)))
  revert KX
  have h0 : PySem.Challenge.rw_qw0044_01.Holds ∨ True := .inr trivial
  revert h0
  k_fill
  intro h0 KX
  clear h0
  refine wpAny_call ?_
  refine' ks_code_super B F KX N T hA hf hke ?k6 ?k7 ?k8 ?k9 ?kB ?_ ?c2 ?c3 ?c4 ?c5
  case k6 => k_is
  case k7 => k_is
  case k8 => k_room
  case k9 => exact BindsTo.of_eq rfl
  case kB => exact locs rfl
  case c2 => decide
  case c3 => rfl
  case c4 => rfl
  case c5 => rfl
  intro g' L' h' FG' F' N' B' X' T' l1
  (try k_lt l1)
  (try dsimp only)
  (try k_lift B')
  k_steps
  · exfalso
    rename (((its ++ [x]).toArray.size : Nat) : Int) = 0 => e0
    simp at e0
    omega
  · exact h _ _ (by assumption) (News.drop1 (News.drop1 (by assumption)))
end
end Mine
end

section
open PySem PySem.W PyProof.Rows
namespace Mine
local macro_rules | `(tactic| walk_at "no goal") => `(tactic| skip)
local macro_rules | `(tactic| walk_at "no goal") => `(tactic| skip)
theorem freshC4 : True ∧ True := by
  k_with_none
  w_top off
  first | (walk1; done) | exact ⟨trivial, trivial⟩
end Mine
end

/-! part C4 -/
section
open PySem PySem.W PySem.W.X PyProof.Rows
set_option maxRecDepth 100000
set_option maxHeartbeats 4000000
namespace Mine
local macro_rules | `(tactic| walk_at $s:str) => `(tactic| k_extra $s)
structure NotIn (p d : Addr) (rest : List (Addr × Obj)) : Prop where
  ne : p ≠ d
  all : ∀ r ∈ rest, r.1 ≠ p
theorem NotIn.all2 {p d : Addr} {rest : List (Addr × Obj)} {o : Obj} (h : NotIn p d rest) : ∀ r ∈ (d, o) :: rest, r.1 ≠ p := fun r hr => by
  cases hr with
  | head => exact h.ne.symm
  | tail _ hr => exact h.all r hr
local macro_rules | `(tactic| k_room) => `(tactic| ((try simp only [depth_under_make, depth_under_kw, depth_in1, depth_deeper, depth_caller]); first | decide | (have : recursionLimit = 1000 := by decide
                                                                                                                                                                 omega)))
local macro_rules | `(tactic| k_inst) => `(tactic| exact pile_inst (by k_asm) (by k_mem) (by k_mem))
section
variable {w : World} {base h₀ : Heap} {e : Env} {E : Value → Shared → Prop} {s : Shared} {L : Addr} {m mg mb : Str → Option Value} {rest : List (Addr × Obj)} {pp : Program} {loose : List Str} {mean : ExcName → Option Value} {Q : Value → Shared → Prop}
theorem acc_new
    (B : Below callerA base [] h₀) (F : Fr h₀ L s.heap m) (KX : (hd.heap_1 w.params).In h₀) (N : News h₀ L s.heap rest) (T : Top pp loose mean mg mb h₀)
    (hf : e.frame = some L) (hke : e.scope.kind = .function)
    (h : ∀ p d tn h' tk, Fr h₀ L h' m → News h₀ L h' ((p, pileObj d [] 0) :: (d, iniD w tn (.int 0 210)) :: rest) → NotIn p d rest → (∀ r ∈ rest, r.1 ≠ d) → Q (.ref p) { s with heap := h', toks := tk }) :
    wpAny (model PySem.Challenge.pw_qw0044_01 w) (callerA.deeper e) (PySem.call (.ref 101) []) Q E s := by
  k_with_none
  k_with "wpAt" => ((ks_step "exec Return"; k_dflt (refine ks_wpAt_Return_some ?_)))
  k_with "wpAt" => ((ks_step "eval Call"; k_dflt (refine ks_wpAt_MethodCall ?_)))
  k_with "wpAt" => ((ks_step "attributeBase Call"; k_here; k_dflt (refine' sup_pile ?F ?X ?N ?T ?ok ?v ?h1 ?h2 ?ka ?s1 ?s2 ?s3 ?s4 ?_; (case F => k_asm); (case X => k_asm); (case N => k_asm); (case T => k_asm); (case ok => first | exact sup_init _ | exact sup_pop _ | exact sup_len _); (case v => rfl); (case h1 => k_mem); (case h2 => k_mem); (case ka => decide); (case s1 => rfl); (case s2 => rfl); (case s3 => rfl); (case s4 => rfl); intro so'9k h'9k F'9k N'9k l19k; (try k_lt l19k); (try dsimp only))))
  k_with "wpAt" => ((dsimp only; ks_step "execs cons"; refine ks_wpAt_execs_cons ?_))
  k_with "getMethod ref" => ((k_here; (with_reducible show wpAny _ _ (getMethod (Value.ref _) (PySem.Str.ofString "__init__") _) _ _ _); k_dflt (refine' super_pile ?F ?X ?N ?h1 ?h2 (id := "list.__init__") (TD := "wrapper_descriptor") (gid := "wrapper_descriptor.__get__") (C := "method-wrapper") ?f ?t ?gg ?n ?x ?_; (case F => k_asm); (case X => k_asm); (case N => k_asm); (case h1 => k_mem); (case h2 => k_mem); (case f => exact al_init _); (case t => kernel_rfl); (case gg => kernel_rfl); (case n => decide); (case x => exact get_init_x)); intro q'9k h'9k F'9k N'9k l19k; (replace l19k := allNe_of l19k); (simp only [AllNe, and_true] at l19k); (try k_sweep)))
  k_with "setAttr ref" => ((k_here; (with_reducible show wpAny _ _ (setAttr (Value.ref _) (PySem.Str.ofString "_initial_size") _) _ _ _); k_dflt (refine' pile_setattr ?F ?X ?N ?h1 ?U ?_; (case F => k_asm); (case X => k_asm); (case N => k_asm); (case h1 => k_mem); (case U => exact Upd.tail (NotIn.ne (by assumption)) (Upd.head (by assumption)))); intro h'9k F'9k N'9k; (try dsimp only)))
  k_with "wpAt" => ((ks_step "exec Expr"; k_dflt (refine ks_wpAt_Expr_any ?_)))
  k_with "callWith ref" => ((k_here; k_dflt (refine' callWith_bm ?N ?q ?c ?m ?_; (case N => k_asm); (case q => k_mem); (case c => decide); (case m => decide)); (try dsimp only)))
  k_with "call ref" => ((k_here; k_dflt (refine' init_bm ?F ?N ?q ?U ?_; (case F => k_asm); (case N => k_asm); (case q => k_mem); (case U => exact Upd.tail (by k_ne) (Upd.tail (by k_ne) (Upd.head (NotIn.all2 (by assumption)))))); intro h'9k F'9k N'9k; (try dsimp only)))
  revert KX
  have h0 : PySem.Challenge.rw_qw0044_01.Holds ∨ True := .inr trivial
  revert h0
  k_fill
  intro h0 KX
  clear h0
  refine acc_K F KX N fun p d h₁ F₁ N₁ l1 l2 l3 => ?_
  have hpd : NotIn p d rest := ⟨Ne.symm l3, l2⟩
  clear F N
  refine' ks_code_super B F₁ KX N₁ T ?hA hf hke ?k6 ?k7 ?k8 ?k9 ?kB ?_ ?c2 ?c3 ?c4 ?c5
  case hA => rfl
  case k6 => k_is
  case k7 => k_is
  case k8 => k_room
  case k9 => exact binds_K (by k_in) rfl (by k_is) rfl rfl rfl
  case kB => exact locs rfl
  case c2 => decide
  case c3 => rfl
  case c4 => rfl
  case c5 => rfl
  intro g' L' h' FG' F' N' B' X' T' l1
  (try k_lt l1)
  (try dsimp only)
  (try k_lift B')
  k_steps
  exact h _ _ _ _ _ (by assumption) (News.drop1 (News.drop1 (by assumption))) hpd (by assumption)
end
end Mine
end

section
open PySem PySem.W PyProof.Rows
namespace Mine
local macro_rules | `(tactic| walk_at "no goal") => `(tactic| skip)
theorem freshD1 : True ∧ True := by
  k_with_none
  w_top off
  first | (walk1; done) | exact ⟨trivial, trivial⟩
end Mine
end

/-! part D1 -/
section
open PySem PySem.W PySem.W.X PyProof.Rows PySem.Calls
set_option maxRecDepth 100000
set_option maxHeartbeats 4000000
namespace Mine
section
variable {prog : Program} {w : World} {A : Around} {E : Value → Shared → Prop} {s : Shared} {p d I q : Addr} {its : List Value} {n : Nat}
/-- the pile's iterator: `list_iterator` over the pile -/
theorem pile_next {i : Nat} {x : Value} {Q : Option Value → Shared → Prop} (hit : s.heap.IsListIter I p i) (hp : s.heap.get? p = some (pileObj d its n)) (hx : its.toArray[i]? = some x)
    (hQ : ∀ h', h'.IsListIter I p (i + 1) → Heap.SameBut I s.heap h' → Q (some x) { s with heap := h' }) : wpAny (model prog w) A (pyNext (.ref I)) Q E s := by
  obtain ⟨o, ho, hc, hd⟩ := id hit
  unfold pyNext
  refine wpAny_bind (wpAny_attempt (wpAny_callSpecial?_slot (name := Str.ofString "__next__") hit.typeIs slot_listiter_next (wpAny_call_entry slot_listiter_next hit.typeIs entry_listiter_next ?_ (args_listiter_next _))))
  show wpAny _ _ (field (.ref I) 0 >>= _) _ _ s
  refine wpAny_bind (wpAny_field ho hd (x := .ref p) rfl ?_)
  rw [if_neg (show ¬ ((Value.ref p == Value.none) = true) from Bool.false_ne_true)]
  refine wpAny_bind (wpAny_field ho hd (x := .int i 0) rfl ?_)
  refine wpAny_bind (wpAny_seqItems hp rfl ?_)
  simp only [Int.toNat_natCast, hx]
  refine wpAny_bind (wpAny_setField ho hd (by simp) (wpAny_pure ⟨x, rfl, wpAny_pure (hQ _ ?_ (Heap.SameBut.update ..))⟩))
  exact ⟨_, Heap.get?_update_self _ ho (Obj.isFreed_of_fields (Obj.data_mapFields hd _)), (Obj.cls_mapFields ..).trans hc, by rw [Obj.data_mapFields hd]; simp [rawInt]⟩
theorem pile_end {i : Nat} {Q : Option Value → Shared → Prop} (hh : A.handled = none) (hit : s.heap.IsListIter I p i) (hp : s.heap.get? p = some (pileObj d its n)) (hx : its.toArray[i]? = none)
    (hQ : ∀ h', Heap.ExtBut I s.heap h' → Q none { s with heap := h' }) : wpAny (model prog w) A (pyNext (.ref I)) Q E s := by
  obtain ⟨o, ho, hc, hd⟩ := id hit
  unfold pyNext
  refine wpAny_bind (wpAny_attempt (wpAny_callSpecial?_slot (name := Str.ofString "__next__") hit.typeIs slot_listiter_next (wpAny_call_entry slot_listiter_next hit.typeIs entry_listiter_next ?_ (args_listiter_next _))))
  show wpAny _ _ (field (.ref I) 0 >>= _) _ _ s
  refine wpAny_bind (wpAny_field ho hd (x := .ref p) rfl ?_)
  rw [if_neg (show ¬ ((Value.ref p == Value.none) = true) from Bool.false_ne_true)]
  refine wpAny_bind (wpAny_field ho hd (x := .int i 0) rfl ?_)
  refine wpAny_bind (wpAny_seqItems hp rfl ?_)
  simp only [Int.toNat_natCast, hx]
  refine wpAny_bind (wpAny_rule (wpAny_bind (wpAny_setField ho hd (by simp) (wpAny_bind ?_))))
  simp only [newExc, newTuple]
  refine wpAny_bind (wpAny_newObj_type ?_ (by size_fits))
  refine wpAny_bind (m := firstArgMember _ _) (wpAny_of_eq (a := Value.none) (by first | rfl | (simp only [firstArgMember]; rfl)) ?_)
  refine wpAny_newObj_type ?_ (by size_fits)
  simp only [raiseNew]
  refine wpAny_bind (wpAny_handled ?_)
  rw [show A.in1.handled = none from hh]
  refine wpAny_bind (wpAny_pure (wpAny_throw ?_))
  refine wpAny_bind (wpAny_isInstance (T := "StopIteration") (b := true) ⟨_, Heap.get?_push_size _ rfl, rfl⟩ isSubtype_stop ?_)
  exact wpAny_pure (hQ _ (((Heap.SameBut.update ..).extBut.push _).push _))

theorem fi_iter (P : Params) : findIn (hd.heap_1 P) (.ref 101) (Str.ofString "__iter__") = some (some (.builtin "list.__iter__")) := by kernel_rfl
theorem pile_iter {Q : Value → Shared → Prop} (KX : (hd.heap_1 w.params).In s.heap) (hp : s.heap.get? p = some (pileObj d its n))
    (hQ : Q (.ref s.heap.objs.size) { s with heap := s.heap.push { cls := .type "list_iterator", data := .fields #[.ref p, .int 0 0] } }) :
    wpAny (model PySem.Challenge.pw_qw0044_01 w) A (pyIter (.ref p)) Q E s := by
  have hT : Looks (model PySem.Challenge.pw_qw0044_01 w) s.heap (typeOf (.ref p)) (.ref 101) := (Looks.ld hp).andThen .now
  unfold pyIter specialOf
  refine wpAny_bind (wpAny_bind (hT.here ((looks_findIn KX (fi_iter _)).here ?_)))
  dsimp only
  have step : ∀ {refuse : Sem Value} {R : Option Value → Shared → Prop}, wpAny (model PySem.Challenge.pw_qw0044_01 w) A (PySem.call (.builtin "list.__iter__") [.ref p]) (fun v => R (some v)) E s →
      wpAny (model PySem.Challenge.pw_qw0044_01 w) A (callSpecialIfBoundUnlessNone? (.ref p) (Str.ofString "__iter__") refuse) R E s := by
    intro refuse R hc
    simp only [callSpecialIfBoundUnlessNone?, bindSpecialIfBound?]
    unfold specialOf
    refine wpAny_holding (wpAny_bind (wpAny_bind (wpAny_bind (hT.here ((looks_findIn KX (fi_iter _)).here ?_)))))
    simp only [slot_list_iter.bind]
    refine wpAny_bind (wpAny_askSetting (wpAny_ite ?_))
    have fin' : wpAny (model PySem.Challenge.pw_qw0044_01 w) A (if (Value.builtin "list.__iter__" == Value.none) = true then (refuse >>= fun v => pure (some v)) else (PySem.call (.builtin "list.__iter__") [.ref p] >>= fun v => pure (some v))) R E s := by
      simp only [builtin_beq_none, Bool.false_eq_true, if_false]
      exact wpAny_bind (wpAny_mono hc (fun v s' h' => wpAny_pure h') fun _ _ h' => h')
    split
    · exact wpAny_bind (wpAny_pure (wpAny_pure fin'))
    · exact wpAny_tryCatch (wpAny_bind (wpAny_pure (wpAny_pure fin')))
  refine wpAny_bind (step (wpAny_call (codeAny_call_builtin slot_list_iter.plain entry_list_iter (check_slot (i := "list.__iter__") (owner := "list") (n := "__iter__") (by decide +kernel) (by decide +kernel) (pile_list KX (mro_list _) hp) (args_list_iter _) ?_))))
  show wpAny _ _ (do ret (← newFields "list_iterator" [.ref p, rawInt 0])) _ _ s
  exact wpAny_bind (wpAny_newObj_type (wpAny_pure (wpAny_bind (wpAny_specialOf (T := "list_iterator") ⟨_, Heap.get?_push_size _ rfl, rfl⟩ slot_listiter_next.lookup (wpAny_pure hQ)))))
end
end Mine
end

section
open PySem PySem.W PyProof.Rows
namespace Mine
local macro_rules | `(tactic| walk_at "no goal") => `(tactic| skip)
theorem freshD2 : True ∧ True := by
  k_with_none
  w_top off
  first | (walk1; done) | exact ⟨trivial, trivial⟩
end Mine
end

/-! part D2 -/
section
open PySem PySem.W PySem.W.X PyProof.Rows PySem.Calls
set_option maxRecDepth 100000
set_option maxHeartbeats 4000000
namespace Mine
/-- walking the pile by a `list_iterator`, each item a tuple that is taken apart -/
theorem pile_walks {prog : Program} {w : World} {A : Around} (hh : A.handled = none) (I p d : Addr) (hne : p ≠ I) (its : List Value) (n : Nat) (Ts : Nat → Addr) (vals : Nat → Array Value)
    (hit : ∀ j, j < its.length → its.toArray[j]? = some (.ref (Ts j))) (hTI : ∀ j, j < its.length → Ts j ≠ I) :
    WalksU prog w A I (I :: p :: (List.range its.length).map Ts) [I] its.length (fun j v => j < its.length ∧ v = vals j)
      (fun j h => h.IsListIter I p j ∧ h.get? p = some (pileObj d its n) ∧ ∀ k, k < its.length → h.IsTuple (Ts k) (vals k))
      (fun j T h => (j < its.length ∧ T = Ts j) ∧ h.IsListIter I p (j + 1) ∧ h.get? p = some (pileObj d its n) ∧ ∀ k, k < its.length → h.IsTuple (Ts k) (vals k)) where
  sub := fun b hb => by simp at hb; simp [hb]
  frame := fun _ _ _ st hk => ⟨st.1.at fun o e => hk I (by simp) o e, hk p (by simp) _ st.2.1,
    fun k hk' => (st.2.2 k hk').at fun o e => hk (Ts k) (List.mem_cons_of_mem _ (List.mem_cons_of_mem _ (List.mem_map.mpr ⟨k, List.mem_range.mpr hk', rfl⟩))) o e⟩
  item := fun i s Q E hi st hQ => by
    refine pile_next st.1 st.2.1 (x := .ref (Ts i)) (hit i hi) fun h' hit' hs' => ?_
    have tup : ∀ k, k < its.length → h'.IsTuple (Ts k) (vals k) := fun k hk' => (st.2.2 k hk').extBut hs'.extBut (hTI k hk')
    exact hQ (Ts i) (vals i) h' s.toks ⟨hi, rfl⟩ (tup i hi) ⟨⟨hi, rfl⟩, hit', hs'.extBut _ _ hne st.2.1, tup⟩ fun b o hb e => hs'.extBut b o (fun h => hb (by simp [h])) e
  go := fun _ _ _ _ _ s Q _ hm hQ => wpAny_letOwnedTupleGo_listiter hm.2.1 (hQ s.heap hm.2 fun _ _ _ e => e)
  apart := fun j T _ hm hmem => by
    rcases List.mem_cons.mp hmem with e | e
    · exact hTI j hm.1.1 (hm.1.2 ▸ e)
    · cases e
  done := fun s Q E st hQ => pile_end hh st.1 st.2.1 (by simp) fun h' he' => hQ h' s.toks fun b o hb e => he' b o (fun h => hb (by simp [h])) e
  self := fun _ _ _ _ st hQ => wpAny_pyIter_listiter st.1 hQ
end Mine
end

section
open PySem PySem.W PyProof.Rows
namespace Mine
local macro_rules | `(tactic| walk_at "no goal") => `(tactic| skip)
theorem freshD3 : True ∧ True := by
  k_with_none
  w_top off
  first | (walk1; done) | exact ⟨trivial, trivial⟩
end Mine
end

/-! part D3 -/
section
open PySem PySem.W PySem.W.X PyProof.Rows PySem.Calls
set_option maxRecDepth 100000
set_option maxHeartbeats 4000000
namespace Mine
/-- the table of a def's inner codes: empty, or with the one inner code -/
def TabOk (pos : Pos) (ps : Array Value) : Prop := ps = #[] ∨ ∃ c' : Addr, ps = #[rawInt pos.line, rawInt pos.col, .ref c']
section
variable {prog : Program} {w : World} {A : Around} {E : Value → Shared → Prop} {s : Shared} {c P : Addr} {ps : Array Value} {pos : Pos}
theorem gen_code {env : Env} {qual : Str} {scope : Scope} {Q : Value → Shared → Prop} (hc : env.code = .ref c) (C : CodeHd s.heap c P) (hP : s.heap.get? P = some (tabObj ps)) (hps : TabOk pos ps)
    (h : ∀ c' h' tk, Heap.ExtBut P s.heap h' → s.heap.objs.size ≤ h'.objs.size → h'.get? P = some (tabObj #[rawInt pos.line, rawInt pos.col, .ref c']) → Q (.ref c') { s with heap := h', toks := tk }) :
    wpAny (model prog w) A (genexprCode env pos qual scope) Q E s := by
  rcases hps with rfl | ⟨c', rfl⟩
  · refine wpAny_genexprCodeX hc (C.code hP (show TriplesOk [] from trivial)) (C.tab hP) rfl fun c' h' tk hx hge hlt _ _ htb _ => ?_
    exact h c' h' tk hx (Nat.le_trans hge (Nat.le_of_lt hlt)) htb.2
  · have hf : codeAmong pos (#[rawInt pos.line, rawInt pos.col, .ref c'] : Array Value).toList = some (.ref c') := codeAmong_snoc [] trivial rfl
    refine wpAny_genexprCode_hit hc (C.code hP ?_) hf ?_
    · exact TriplesOk_snoc _ _ _ [] trivial
    · exact h c' s.heap s.toks (fun _ _ _ e => e) (Nat.le_refl _) hP
end
end Mine
end

section
open PySem PySem.W PyProof.Rows
namespace Mine
local macro_rules | `(tactic| walk_at "no goal") => `(tactic| skip)
theorem freshD4 : True ∧ True := by
  k_with_none
  w_top off
  first | (walk1; done) | exact ⟨trivial, trivial⟩
end Mine
end

/-! part D4 -/
section
open PySem PySem.W PySem.W.X PyProof.Rows PySem.Calls
set_option maxRecDepth 100000
set_option maxHeartbeats 4000000
namespace Mine
theorem pass_all (n : Nat) : passing (fun _ => true) n 0 = List.range n := by
  unfold passing; simp
theorem pass_get {n j : Nat} {i : Nat} (h : (passing (fun _ => true) n 0)[j]? = some i) : i = j := by
  rw [pass_all] at h
  by_cases hj : j < n
  · rw [List.getElem?_range hj] at h; exact (Option.some.inj h).symm
  · rw [List.getElem?_eq_none (by simpa using Nat.le_of_not_lt hj)] at h; cases h
theorem walksS_val {prog : Program} {w : World} {A : Around} {I : Addr} {fp wr : List Addr} {G : Array GenState → Array GenState → Prop} {n n' : Nat} {P P' : Nat → Value → Prop} {St : Nat → Shared → Prop}
    (W : WalksS prog w A I fp wr G n P St) (hn : n = n') (hP : ∀ i v, P i v → P' i v) : WalksS prog w A I fp wr G n' P' St where
  sub := W.sub
  grefl := W.grefl
  gtrans := W.gtrans
  frame := W.frame
  item := fun i s Q E hi st hQ => W.item i s Q E (hn ▸ hi) st fun v s' hv => hQ v s' (hP i v hv)
  done := fun s Q E st hQ => W.done s Q E (hn ▸ st) hQ
  self := W.self
section
variable {w : World} {A : Around} {E : Value → Shared → Prop} {s : Shared} {h₀ : Heap} {L p d c P : Addr} {ps : Array Value} {m mg mb : Str → Option Value} {its : List Value} {n : Nat} {pp : Program} {loose : List Str} {mean : ExcName → Option Value}
/-- the generator over the pile's pairs -/
theorem gen_pile {env : Env} {elt iter : Expr} {xa xb : Str} {pa pb pt : Pos} {kt : Nat} {scope : Scope} {pos : Pos} {Q : Value → Shared → Prop} {Ts : Nat → Addr} {va vb : Nat → Value} {tx : Nat → Str}
    (F : Fr h₀ L s.heap m) (X₀ : (hd.heap_1 w.params).In h₀) (T : Top pp loose mean mg mb h₀) (G : AllBare s.gens) (C : CodeHd h₀ c P) (hcode : env.code = .ref c) (hgl : env.globals = mainGlobals)
    (hP : s.heap.get? P = some (tabObj ps)) (hP0 : h₀.get? P = none) (hPL : P ≠ L) (hps : TabOk pos ps) (hp : s.heap.get? p = some (pileObj d its n)) (hpP : p ≠ P)
    (hit : ∀ j, j < its.length → its.toArray[j]? = some (.ref (Ts j))) (hT : ∀ j, j < its.length → s.heap.IsTuple (Ts j) #[va j, vb j])
    (hh : A.handled = none) (hroom : A.depth < recursionLimit)
    (hi : ∀ {R : Value → Shared → Prop}, R (.ref p) s → wpAny (model PySem.Challenge.pw_qw0044_01 w) A (eval iter env) R E s)
    (helt : ∀ (c' C' : Addr) (A' : Around) (E' : Value → Shared → Prop) (j : Nat) (t : Shared) (m₂ : Str → Option Value), A'.handled = none → A'.depth ≤ A.depth + 1 → A'.units ≤ A.units + 8 → j < its.length → Fr h₀ C' t.heap m₂ → m₂ xa = some (va j) → m₂ xb = some (vb j) →
      wpAny (model PySem.Challenge.pw_qw0044_01 w) A' (eval elt (genEnv scope [] C' (.ref c') builtinsNs env)) (fun y s₃ => (∃ u, y = .str (tx j) u) ∧ Keeps t s₃) E' t)
    (hQ : ∀ (a c' : Addr) (s₅ : Shared), AllBare s₅.gens → s₅.os = s.os → s₅.drawn = s.drawn → (∀ b o, b ≠ P → s.heap.get? b = some o → s₅.heap.get? b = some o) → s₅.heap.get? P = some (tabObj #[rawInt pos.line, rawInt pos.col, .ref c']) → 
      Gen PySem.Challenge.pw_qw0044_01 w A (s.heap.objs.size - 1) a its.length (fun j y => ∃ u, y = .str (tx j) u) s₅ → Q (.ref a) s₅)
    (hco : scope.isCoroutine = false) (hclos : closureFor scope env = pure []) (hcell : ∀ y ∈ scope.names, y.2 ≠ .cell) (h0 : scope.names.lookup (".0" : Str) = some NameKind.local)
    (hxa : scope.names.lookup xa = some .local) (hxb : scope.names.lookup xb = some .local) (hab : xa ≠ xb) (hkind : scope.kind = .function)
    (hs : ∀ x, genFold iter env x = pure x) :
    wpAny (model PySem.Challenge.pw_qw0044_01 w) A (eval (.GeneratorExp elt [⟨.Tuple [.Name xa pa, .Name xb pb] kt pt, iter, [], 0⟩] scope pos) env) Q E s := by
  have X := X₀.keeps F.keep
  have hlim : s.heap.NoLimit := T.nolimit.keeps F.keep
  have hlt : p < s.heap.objs.size := Heap.lt_size hp
  have hPlt : P < s.heap.objs.size := Heap.lt_size hP
  have hTlt : ∀ j, j < its.length → Ts j < s.heap.objs.size := fun j hj => by obtain ⟨_, e, _⟩ := hT j hj; exact Heap.lt_size e
  have hTP : ∀ j, j < its.length → Ts j ≠ P := fun j hj e => by
    refine Classical.byContradiction fun hn9 => ?_
    obtain ⟨o, ho, hc, _⟩ := hT j hj
    refine hn9 ?_
    clear hn9
    rw [e, hP] at ho; cases ho; cases hc
  refine wpAny_GeneratorExp_walksQTD hh hco hclos hcell h0 hxa hxb hab hkind hroom (hi (pile_iter X hp ⟨hlim.push _, ?_⟩)) hs
  have up : ∀ b o, s.heap.get? b = some o → (s.heap.push { cls := .type "list_iterator", data := .fields #[.ref p, .int 0 0] }).get? b = some o := fun b o e => Heap.get?_push_of_some _ e
  refine gen_code hcode ((C.keeps F.keep).keeps up) (up _ _ hP) hps fun c' h₃ tk hx hsz hP3 => ?_
  refine Classical.byContradiction fun hn9 => ?_
  obtain ⟨bm, ob, b1, b2, b3, b4, b5, b6⟩ := T.bmain
  refine hn9 ?_
  clear hn9
  have h3 : ∀ b o, b ≠ P → s.heap.get? b = some o → h₃.get? b = some o := fun b o hb e => hx b o hb (up b o e)
  have base3 : ∀ b o, h₀.get? b = some o → h₃.get? b = some o := fun b o e => h3 b o (fun e' => by rw [e', hP0] at e; cases e) (F.keep b o e)
  have T3 := T.keeps base3
  have hsz1 : s.heap.objs.size < h₃.objs.size := Nat.lt_of_lt_of_le (by rw [Heap.size_push]; exact Nat.lt_succ_self _) hsz
  have gne : mainGlobals ≠ P := fun e => by
    refine Classical.byContradiction fun hn9 => ?_
    obtain ⟨o, es, ep, ho, _⟩ := T.g
    refine hn9 ?_
    clear hn9
    rw [e, hP0] at ho; cases ho
  rw [hgl]
  refine wpAny_builtinsFor T3.g b1 b2 (base3 _ _ b3) b4 b5 b6 ?_
  refine ⟨s.heap.objs.size, s.heap.objs.size :: p :: (List.range its.length).map Ts, [s.heap.objs.size], its.length, fun j v => j < its.length ∧ v = #[va j, vb j], _, _, fun _ => true, fun j y => ∃ u, y = .str (tx j) u, rfl,
    fun A' hA' => pile_walks hA' _ p d (Nat.ne_of_lt hlt) its n Ts (fun j => #[va j, vb j]) hit (fun j hj => Nat.ne_of_lt (hTlt j hj)), fun i vals e => ⟨_, _, e.2⟩, ⟨?_, h3 _ _ hpP hp, fun k hk => ?_⟩, ?_, T3.nolimit, ?_, ?_, ?_⟩
  · exact ⟨_, hx _ _ (fun e => by rw [e] at hPlt; exact Nat.lt_irrefl _ hPlt) (Heap.get?_push_size _ rfl), rfl, rfl⟩
  · obtain ⟨o, e, r⟩ := hT k hk
    exact ⟨o, h3 _ _ (hTP k hk) e, r⟩
  · intro b hb
    rcases List.mem_cons.mp hb with rfl | hb
    · exact hsz1
    · rcases List.mem_cons.mp hb with rfl | hb
      · exact Nat.lt_trans hlt hsz1
      · obtain ⟨k, hk, rfl⟩ := List.mem_map.mp hb
        exact Nat.lt_trans (hTlt k (List.mem_range.mp hk)) hsz1
  · intro hm
    obtain ⟨_, hns, _⟩ := hlim
    have := hns.lt
    simp only [List.mem_singleton] at hm
    rw [hm] at this; exact Nat.lt_irrefl _ this
  · intro href hhref
    refine ⟨fun A' E' i va' vb' t m₂ hA hD hU hP' hn hma hmb hkp => wpAny_pure ⟨rfl, t.heap, t.toks, rfl, fun _ _ e => e⟩, fun A' E' i va' vb' t m₂ hA hD hU hP' _ hn hma hmb hkp => ?_⟩
    obtain ⟨hi', hP'⟩ := hP'
    have e1 : va' = va i ∧ vb' = vb i := by simpa using hP'
    obtain ⟨rfl, rfl⟩ := e1
    refine helt c' _ A' E' i t m₂ hA hD hU hi' ⟨hn, fun b o e => ?_, ?_⟩ hma hmb
    · exact hkp b (List.mem_range.mpr (Heap.lt_size (base3 b o e))) (fun hm => by
        simp only [List.mem_singleton] at hm
        have := Heap.lt_size (F.keep b o e)
        rw [hm] at this; exact Nat.lt_irrefl _ this) o (hhref b o (base3 b o e))
    · exact Nat.le_trans F.above (Nat.le_of_lt (Nat.lt_trans F.ns.lt hsz1))
  · intro a h₅ tk' gs hgb hag hsz₅ hk₅ W hat
    have hsz5 : ∀ b, b < h₃.objs.size → b < h₅.objs.size := fun b hb => by rw [hsz₅]; exact Nat.lt_succ_of_lt (Nat.lt_trans hb hag)
    have W' := walksS_val (P' := fun j y => ∃ u, y = .str (tx j) u) W (n' := its.length) (by rw [pass_all, List.length_range]) fun i v ⟨k, e, hv⟩ => by
      rw [pass_get e] at hv; exact hv
    refine hQ a c' _ (G.push hgb) rfl rfl (fun b o hb e => hk₅ b o (h3 b o hb e)) (hk₅ _ _ hP3) ⟨_, _, _, _, W', hat, (fun i s' st => st.1.typeIs), List.mem_cons_self, ?_, ?_⟩
    · intro b hb
      rcases List.mem_cons.mp hb with rfl | hb
      · show b < h₅.objs.size
        rw [hsz₅]; exact Nat.lt_succ_self _
      · rcases List.mem_cons.mp hb with rfl | hb
        · show h₃.objs.size < h₅.objs.size
          rw [hsz₅]; exact Nat.lt_succ_of_lt hag
        · exact hsz5 _ (List.mem_range.mp hb)
    · intro b hb
      rcases List.mem_cons.mp hb with rfl | hb
      · exact Nat.lt_of_le_of_lt (Nat.sub_le _ _) hsz1
      · rcases List.mem_cons.mp hb with rfl | hb
        · exact Nat.sub_lt (Nat.lt_of_le_of_lt (Nat.zero_le _) hlt) Nat.one_pos
        · cases hb
end
end Mine
end

section
open PySem PySem.W PyProof.Rows
namespace Mine
local macro_rules | `(tactic| walk_at "no goal") => `(tactic| skip)
theorem freshC5 : True ∧ True := by
  k_with_none
  w_top off
  first | (walk1; done) | exact ⟨trivial, trivial⟩
end Mine
end

/-! part C5 -/
section
open PySem PySem.W PySem.W.X PyProof.Rows PySem.Calls
set_option maxRecDepth 100000
set_option maxHeartbeats 4000000
namespace Mine
local macro_rules | `(tactic| omega) => `(tactic| lia)
local macro_rules | `(tactic| k_room) => `(tactic| ((try simp only [depth_under_make, depth_under_kw, depth_in1, depth_deeper, depth_caller]); first | decide | (have : recursionLimit = 1000 := by decide
                                                                                                                                                                 omega)))
local macro_rules | `(tactic| k_inst) => `(tactic| exact pile_inst (by k_asm) (by k_mem) (by k_mem))
/-- a pair of the pile: a slash and a name -/
structure Piece where
  a : Addr
  t1 : Tok
  b : Bool
  t2 : Tok
deriving Inhabited
def nmP (b : Bool) : Str := if b then Str.ofString "b" else Str.ofString "a"
abbrev Piece.obj (q : Piece) : Obj := pairObj (.str (Str.ofString "/") q.t1) (.str (nmP q.b) q.t2)
def partOf (b : Bool) : Str := Txt.join (Str.ofString "") [Str.ofString "/", nmP b]
def pathOf (bs : List Bool) : Str := Txt.join (Str.ofString "") (bs.map partOf)
abbrev strPos : Pos := { line := 27, col := 32, endLine := 27, endCol := 85 }
theorem gen_glob {w : World} {A : Around} {E : Value → Shared → Prop} {s : Shared} {h₀ : Heap} {C' : Addr} {m₂ mg mb : Str → Option Value} {pp : Program} {loose : List Str} {mean : ExcName → Option Value} {x : Str} {pos : Pos} {v : Value} {scope : Scope} {cd : Value} {env : Env} {Q : Value → Shared → Prop}
    (F : Fr h₀ C' s.heap m₂) (X : (hd.heap_1 w.params).In h₀) (T : Top pp loose mean mg mb h₀) (e : nsIn (hd.heap_1 w.params) mainGlobals x = some (some v)) (hg : env.globals = mainGlobals) (hk : scope.kind = .function) (hx : scope.names.lookup x = some .globalImplicit) (hd : (x == ("__debug__" : Str)) = false) (h : Q v s) :
    wpAny (model PySem.Challenge.pw_qw0044_01 w) A (eval (.Name x pos) (genEnv scope [] C' cd builtinsNs env)) Q E s :=
  Name_function_global hk hx (loadGlobal_global (env := genEnv scope [] C' cd builtinsNs env) (by show s.heap.Ns env.globals mg; rw [hg]; exact T.g.keeps F.keep) (mg_of X T.g e) h) hd
theorem range_pieces (ps : List Piece) : (List.range ps.length).map (fun j => partOf (ps.getD j default).b) = (ps.map (·.b)).map partOf := by
  apply List.ext_getElem
  · simp
  · intro i h1 h2
    have hi : i < ps.length := by simpa using h1
    simp [hi]
theorem part_len (b : Bool) : (partOf b).length = 2 := by cases b <;> decide
theorem path_fits (bs : List Bool) (h : bs.length ≤ 900) : JoinOk (Str.ofString "") (bs.map partOf) = true := by
  refine joinOk_of ?_
  have e0 : (Str.ofString "").length = 0 := by decide
  have e : ((bs.map partOf).map (·.length)).sum = 2 * bs.length := by
    clear h
    induction bs with
    | nil => rfl
    | cons b r ih => simp only [List.map_cons, List.sum_cons, List.length_cons, part_len, ih]; omega
  rw [e, e0]
  omega
theorem ns_empty (P : Params) : ∃ t, nsIn (hd.heap_1 P) mainGlobals (Str.ofString "EMPTYSTRING") = some (some (.str (Str.ofString "") t)) := by
  have h : (nsIn (hd.heap_1 P) mainGlobals (Str.ofString "EMPTYSTRING")).map (fun o => o.map fun v => match v with | .str x _ => some x | _ => none) = some (some (some (Str.ofString ""))) := by kernel_rfl
  revert h
  cases nsIn (hd.heap_1 P) mainGlobals (Str.ofString "EMPTYSTRING") with
  | none => intro h; cases h
  | some o =>
    cases o with
    | none => intro h; cases h
    | some v => cases v with
      | str x t => intro h; exact ⟨t, by injection h with h; injection h with h; injection h with h; rw [h]⟩
      | _ => intro h; cases h
section
variable {w : World} {A A₀ : Around} {base h₀ : Heap} {outer : List Env} {env : Env} {E : Value → Shared → Prop} {s : Shared} {p d L : Addr} {m mg mb : Str → Option Value} {rest : List (Addr × Obj)} {ps : List Piece} {n : Nat} {pp : Program} {loose : List Str} {mean : ExcName → Option Value} {Q : Value → Shared → Prop}
theorem str_K {tn : Tok} {v : Value} {tb : Array Value}
    (B : Below A₀ base outer h₀) (F : Fr h₀ L s.heap m) (KX : (hd.heap_1 w.params).In h₀) (N : News h₀ L s.heap ((p, pileObj d (ps.map fun q => .ref q.a) n) :: (d, iniD w tn v) :: (70, tabObj tb) :: rest)) (T : Top pp loose mean mg mb h₀)
    (hA : A.frames = some (env :: outer)) (hf : env.frame = some L) (hke : env.scope.kind = .function) (hh : A.handled = none) (hroom : A.depth < 800) (hun : A.units < 800) (hlen : ps.length ≤ 900)
    (hmem : ∀ q ∈ ps, (q.a, q.obj) ∈ rest) (G : AllBare s.gens) (htb : TabOk strPos tb) (h70 : ∀ r ∈ rest, r.1 ≠ 70)
    (h : ∀ h' gs' dr' tk tv tb', Fr h₀ L h' m → News h₀ L h' ((p, pileObj d (ps.map fun q => .ref q.a) n) :: (d, iniD w tn v) :: (70, tabObj tb') :: rest) → AllBare gs' → TabOk strPos tb' → Q (.str (pathOf (ps.map (·.b))) tv) { s with heap := h', gens := gs', drawn := dr', toks := tk }) :
    wpAny (model PySem.Challenge.pw_qw0044_01 w) A (PySem.call (.ref 75) [.ref p]) Q E s := by
  revert KX
  have h0 : PySem.Challenge.rw_qw0044_01.Holds ∨ True := .inr trivial
  revert h0
  k_fill
  intro h0 KX
  clear h0
  refine wpAny_call ?_
  refine' code_def B F KX N T hA hf hke ?k6 ?k7 ?k8 ?k9 ?kB ?_ ?c2 ?c3 ?c4 ?c5
  case k6 => k_is
  case k7 => k_is
  case k8 => k_room
  case k9 => exact BindsTo.of_eq rfl
  case kB => exact locs rfl
  case c2 => rfl
  case c3 => rfl
  case c4 => rfl
  case c5 => decide
  intro g' L' h' FG' F' N' B' X' T'
  (try dsimp only)
  (try k_lift B')
  k_steps
  have hne : p ≠ 70 := by
    rintro rfl
    have e1 := (N' _ (.head _)).1
    have e2 := (N' (70, tabObj tb) (.tail _ (.tail _ (.head _)))).1
    rw [e1] at e2; cases e2
  refine gen_pile (P := 70) (c := 74) (p := p) (d := d) (n := n) (ps := tb) (its := ps.map fun q => .ref q.a) (Ts := fun j => (ps.getD j default).a) (va := fun j => .str (Str.ofString "/") (ps.getD j default).t1) (vb := fun j => .str (nmP (ps.getD j default).b) (ps.getD j default).t2) (tx := fun j => partOf (ps.getD j default).b)
    F' X' T' G (codeHd_of_K (c := 74) (P := 70) X' (by kernel_rfl)) rfl rfl (N' (70, tabObj tb) (.tail _ (.tail _ (.head _)))).1 (N' (70, tabObj tb) (.tail _ (.tail _ (.head _)))).2.2 (N' (70, tabObj tb) (.tail _ (.tail _ (.head _)))).2.1 htb (N' _ (.head _)).1 hne ?hit ?hT ?hh ?hroom ?hi ?helt ?hQ ?hco ?hclos ?hcell ?h00 ?hxa ?hxb ?hab ?hkind ?hs
  case hit => intro j hj; simp at hj; simp [hj]
  case hT =>
    intro j hj
    simp at hj
    have e : ps.getD j default = ps[j] := by simp [hj]
    have hq := (N' _ (.tail _ (.tail _ (.tail _ (hmem ps[j] (List.getElem_mem hj)))))).1
    rw [e]
    exact ⟨_, hq, rfl, _, rfl⟩
  case hh => exact hh
  case hroom => k_room
  case hco => rfl
  case hclos => rfl
  case hcell => decide
  case h00 => rfl
  case hxa => rfl
  case hxb => rfl
  case hab => decide
  case hkind => rfl
  case hs => intro x; rfl
  case hi => intro R hR; exact ld F' rfl hR
  case helt =>
    intro c' C' A' E' j t m₂ hA' hD' hU' hj F2 hma hmb
    obtain ⟨te, hte⟩ := ns_empty w.params
    refine MethodCall_ (gen_glob F2 X' T' hte rfl rfl rfl (by decide) (GM.join ?_))
    refine callWith_builtin rfl (evalArgs_plain (spliced_cons ?_))
    refine Tuple_ (k := 0) (spliced_cons ?_)
    refine ldG F2.ns hma (spliced_cons ?_)
    refine ldG F2.ns hmb (spliced_nil ?_)
    refine wpAny_newObj_type (spliced_nil ?_) (by size_fits)
    refine join_tuple (ys := [Str.ofString "/", nmP (ps.getD j default).b]) ⟨_, Heap.get?_push_size _ rfl, rfl, _, rfl⟩ (.cons _ _ (.cons _ _ .nil)) ?_ fun t' k => ⟨⟨t', rfl⟩, _, _, rfl, fun b o e => Heap.get?_push_of_some _ e⟩
    cases (ps.getD j default).b <;> decide
  case hQ =>
    intro a c' s₅ G5 os5 dr5 keep5 hP5 X5
    have n70 := N' (70, tabObj tb) (.tail _ (.tail _ (.head _)))
    have F5 : Fr g' L' s₅.heap _ := ⟨F'.ns.at fun o e => keep5 _ _ (Ne.symm n70.2.1) e, fun b o e => keep5 b o (fun e' => by rw [e'] at e; have := n70.2.2; rw [e] at this; cases this) (F'.keep b o e), F'.above⟩
    rw [List.length_map] at X5
    have hle : L' ≤ h'.objs.size - 1 := Nat.le_sub_one_of_lt F'.ns.lt
    refine spliced_nil ?_
    refine join_rowsK F5 G5 X5 hle (fun j => partOf (ps.getD j default).b) (fun j v hv => hv) ?_ (fun s' t' F6 G6 o6 keep6 => ?_) ?_
    · rw [range_pieces]; exact path_fits _ (by simpa using hlen)
    · rw [range_pieces]
      have lt : ∀ x ∈ ((p, pileObj d (ps.map fun q => .ref q.a) n) :: (d, iniD w tn v) :: (70, tabObj tb) :: rest), x.1 ≤ h'.objs.size - 1 := fun x hx => Nat.le_sub_one_of_lt (Heap.lt_size (N' x hx).1)
      have N6 : News g' L' s'.heap ((p, pileObj d (ps.map fun q => .ref q.a) n) :: (d, iniD w tn v) :: (70, tabObj #[rawInt strPos.line, rawInt strPos.col, .ref c']) :: rest) := by
        have keep : ∀ x ∈ ((p, pileObj d (ps.map fun q => .ref q.a) n) :: (d, iniD w tn v) :: (70, tabObj tb) :: rest), x.1 ≠ 70 → s'.heap.get? x.1 = some x.2 := fun x hx hne' => keep6 _ _ (lt x hx) (keep5 _ _ hne' (N' x hx).1)
        have hd70 : d ≠ 70 := by
          rintro rfl
          have e1 := (N' _ (.tail _ (.head _))).1
          rw [n70.1] at e1; cases e1
        intro x hx
        rcases List.mem_cons.mp hx with rfl | hx
        · exact ⟨keep _ (.head _) hne, (N' _ (.head _)).2⟩
        · rcases List.mem_cons.mp hx with rfl | hx
          · exact ⟨keep _ (.tail _ (.head _)) hd70, (N' _ (.tail _ (.head _))).2⟩
          · rcases List.mem_cons.mp hx with rfl | hx
            · exact ⟨keep6 _ _ (lt (70, tabObj tb) (.tail _ (.tail _ (.head _)))) hP5, n70.2⟩
            · exact ⟨keep _ (.tail _ (.tail _ (.tail _ hx))) (h70 x hx), (N' _ (.tail _ (.tail _ (.tail _ hx)))).2⟩
      refine Classical.byContradiction fun hn9 => ?_
      obtain ⟨sh, sg, sd, st, so⟩ := s'
      refine hn9 ?_
      clear hn9
      have eo : so = s.os := o6.trans os5
      subst eo
      exact leaveK_ F6 N6 fun f1 n1 => h _ _ _ _ _ _ f1 n1 G6 (.inr ⟨c', rfl⟩)
    · have : sizeLine = 16777216 := by decide
      omega
end
end Mine
end

section
open PySem PySem.W PyProof.Rows
namespace Mine
local macro_rules | `(tactic| walk_at "no goal") => `(tactic| skip)
theorem freshM0 : True ∧ True := by
  k_with_none
  w_top off
  first | (walk1; done) | exact ⟨trivial, trivial⟩
end Mine
end

/-! part M0 -/
section
open PySem PySem.W PySem.W.X PyProof.Rows
set_option maxRecDepth 100000
set_option maxHeartbeats 8000000
namespace Mine
section
local macro_rules | `(tactic| x_close) => `(tactic| assumption)
theorem issub_str {prog : Program} {w : World} {A : Around} {Q : Value → Shared → Prop} {E : Value → Shared → Prop} {s : Shared} {D : Addr}
    (hD : s.heap.get? D = some ⟨.type "tuple", none, .seq #[.type "str", .type "bytes"] 0, #[]⟩)
    (h : Q (.bool true) s) : wpAny (model prog w) A (PySem.call (.builtin "issubclass") [.type "str", .ref D]) Q E s := by
  x_run
end
end Mine
end

section
open PySem PySem.W PyProof.Rows
namespace Mine
local macro_rules | `(tactic| walk_at "no goal") => `(tactic| skip)
theorem freshE1 : True ∧ True := by
  k_with_none
  w_top off
  first | (walk1; done) | exact ⟨trivial, trivial⟩
end Mine
end

/-! part E1 -/
section
open PySem PySem.W PySem.W.X PyProof.Rows PySem.Calls
set_option maxRecDepth 100000
set_option maxHeartbeats 4000000
namespace Mine
/-- all that stood stands -/
def Stays (h h' : Heap) : Prop := ∀ b o, h.get? b = some o → h'.get? b = some o
theorem Stays.refl {h : Heap} : Stays h h := fun _ _ e => e
theorem Stays.trans {h h' h'' : Heap} (x : Stays h h') (y : Stays h' h'') : Stays h h'' := fun b o e => y b o (x b o e)
theorem Stays.fr {h₀ h h' : Heap} {L : Addr} {m : Str → Option Value} (k : Stays h h') (F : Fr h₀ L h m) : Fr h₀ L h' m := by
  refine Classical.byContradiction fun hn9 => ?_
  obtain ⟨oL, es, ep, hL, r⟩ := F.ns
  refine hn9 ?_
  clear hn9
  exact ⟨⟨oL, es, ep, k _ _ hL, r⟩, fun b o e => k b o (F.keep b o e), F.above⟩
theorem Stays.news {h₀ h h' : Heap} {L : Addr} {news : List (Addr × Obj)} (k : Stays h h') (N : News h₀ L h news) : News h₀ L h' news := fun p hp => ⟨k _ _ (N p hp).1, (N p hp).2⟩
/-- what a call that turns nothing old gives back -/
def KeepR (h : Heap) (R : Result → Shared → Prop) : Result → Shared → Prop := fun r s' => Stays h s'.heap → R r s'
theorem leave_keeps {h₀ g h : Heap} {L : Addr} {m : Str → Option Value} {R : Result → Shared → Prop} {v : Value} {s' : Shared} (kb : Stays h g) (x : LeaveK h₀ L m g (KeepR h R) v s') : LeaveK h₀ L m g R v s' := by
  refine Classical.byContradiction fun hn9 => ?_
  obtain ⟨L', m', news', F', N', k⟩ := x
  refine hn9 ?_
  clear hn9
  exact ⟨L', m', news', F', N', fun a b => k a b (fun b o e => F'.keep b o (kb b o e))⟩
section
variable {prog : Program} {w : World} {A A₀ : Around} {s : Shared} {K : Frag} {L : Addr} {h₀ base : Heap} {m mg mb : Str → Option Value} {p : Program} {loose : List Str} {mean : ExcName → Option Value}
theorem enter_P {env : Env} {outer : List Env} {R : Result → Shared → Prop} {name qual : Str} {params : Arguments} {body : List Stmt} {scope : Scope} {dV kV doc pm cdv ct oc : Value} {an od : Option Addr} {osl : Array (Option Value)} {f : Addr} {args : Args} {binds : List (Str × Value)}
    (B : Below A₀ base outer h₀) (F : Fr h₀ L s.heap m) (X₀ : K.In h₀) (T : Top p loose mean mg mb h₀) (hA : A.frames = some (env :: outer)) (hf : env.frame = some L) (hke : env.scope.kind = .function)
    (ho : K.lookup f = some ⟨oc, od, .func (fnOf name qual params body scope dV kV doc pm an cdv ct), osl⟩) (hcd : codeIn K cdv qual = true) (hroom : A.depth < recursionLimit)
    (hbind : BindsTo s (fnOf name qual params body scope dV kV doc pm an cdv ct) args binds) (hloc : ∀ y ∈ binds, scope.names.lookup y.1 = some .local)
    (h : ∀ g L' h₁, Stays s.heap g → Fr h₀ L g m → Fr g L' h₁ (fun y => binds.reverse.lookup y) → News g L' h₁ [] → Below A base (env :: outer) g → K.In g → Top p loose mean mg mb g →
      wpAny (model prog w) (A.deeper (envOf qual scope L' f cdv)) (execs body (envOf qual scope L' f cdv))
        (fun fl s' => LeaveK h₀ L m g (KeepR s.heap R) (match fl with | .ret v => v | _ => .none) s')
        (fun e s' => wpAny (model prog w) (A.deeper (envOf qual scope L' f cdv)) (leaving (envOf qual scope L' f cdv) e) (fun _ s'' => R (.error e) s'') (fun e' s'' => R (.error e') s'') s')
        { s with heap := h₁, toks := s.toks + binds.length })
    (hco : scope.isCoroutine = false) (hgen : scope.isGenerator = false) (hk : scope.kind = .function)
    (hcell : ∀ x ∈ scope.names, x.2 ≠ .cell) : codeAny (model prog w) A (.call (.ref f) args) R s := by
  refine codeAny_call_function (fd := fnOf name qual params body scope dV kV doc pm an cdv ct) (body := body) hroom ((X₀.keeps F.keep) _ _ ho) rfl hco hgen rfl (codeRec_of (X₀.keeps F.keep) hcd) ?_
  refine hbind _ _ _ _ ?_
  refine Classical.byContradiction fun hn9 => ?_
  obtain ⟨FG, BG, st, lv⟩ := groundX (R := R) B F (News.nil (h₀ := h₀) (L := L) (h := s.heap)) hA hf hke
  refine hn9 ?_
  clear hn9
  refine wpAny_newFunctionEnv hcell hloc (fun h₁ hns hsb => ⟨(T.nolimit.keeps F.keep).fresh _ hsb, codeAny_func ?_⟩) hk
  have hk₁ : ∀ b o, s.heap.get? b = some o → h₁.get? b = some o := fun b o e => hsb.extBut b o (Nat.ne_of_lt (Heap.lt_size e)) (Heap.get?_push_of_some _ e)
  exact wpAny_mono (h s.heap s.heap.objs.size h₁ Stays.refl FG ⟨hns, hk₁, Nat.le_refl _⟩ News.nil BG (X₀.keeps st) (T.keeps st)) (fun fl s' hl => lv _ _ (leave_keeps Stays.refl hl)) fun _ _ y => y
theorem wp_of_peek1c {α : Type} {K : Frag} {M : Model} {A : Around} {E : Value → Shared → Prop} {Q : α → Shared → Prop} {s : Shared} {o : Obj} {r : Addr → α}
    (X : K.In s.heap) (q : Q (r s.heap.objs.size) { s with heap := s.heap.push o }) :
    ∀ (t : Sem α) (g : Addr → Option α), peek1 K ⟨M.prog, M.w.params⟩ t = some (o, g) → (∀ D, g D = some (r D)) → wpAny M A t Q E s := by
  intro t
  induction t with
  | rule _ k ih => intro g e hg Γ p hΓ; exact ih () g e hg Γ p hΓ
  | point _ k ih => intro g e hg Γ p hΓ; exact ih () g e hg Γ p hΓ
  | ask k ih => intro g e hg Γ p hΓ; exact ih _ g e hg Γ p hΓ
  | load a _ k ih =>
    intro g e hg Γ p hΓ
    simp only [peek1] at e
    split at e
    · rename_i ob ho; exact ⟨ob, X _ _ ho, ih ob g e hg Γ p hΓ⟩
    · cases e
  | alloc ob k _ =>
    intro g e hg
    have e : some (ob, fun D => peek K ⟨M.prog, M.w.params⟩ (k D)) = some (o, g) := e
    obtain ⟨e1, e2⟩ := Prod.mk.inj (Option.some.inj e)
    subst e1
    subst e2
    have X' : K.In (s.heap.push ob) := X.keeps fun b x hb => Heap.get?_push_of_some _ hb
    show wpAny M A (alloc ob >>= k) Q E s
    refine wpAny_bind (wpAny_alloc ?_)
    exact (Looks.of_peek (M := M) (h := s.heap.push ob) X' (hg s.heap.objs.size)).here (s := { s with heap := s.heap.push ob }) q
  | _ => intro g e; cases e
/-- a def with a star: its rest is the one object of the ledger -/
theorem enter_PR {env : Env} {outer : List Env} {R : Result → Shared → Prop} {name qual : Str} {params : Arguments} {body : List Stmt} {scope : Scope} {dV kV doc pm cdv ct oc : Value} {an od : Option Addr} {osl : Array (Option Value)} {f : Addr} {args : Args} {vs : List Value} {g₁ : Addr → Option (List (Str × Value))} {binds : Addr → List (Str × Value)}
    (B : Below A₀ base outer h₀) (F : Fr h₀ L s.heap m) (X₀ : K.In h₀) (T : Top p loose mean mg mb h₀) (hA : A.frames = some (env :: outer)) (hf : env.frame = some L) (hke : env.scope.kind = .function)
    (ho : K.lookup f = some ⟨oc, od, .func (fnOf name qual params body scope dV kV doc pm an cdv ct), osl⟩) (hcd : codeIn K cdv qual = true) (hroom : A.depth < recursionLimit)
    (hv : args.pos.drop (params.posonlyargs.length + params.args.length) = vs)
    (hp : peek1 K ⟨prog, w.params⟩ (bindArgs (fnOf name qual params body scope dV kV doc pm an cdv ct) args) = some (({ cls := .type "tuple", data := .seq vs.toArray } : Obj), g₁))
    (hg : ∀ D, g₁ D = some (binds D)) (hloc : ∀ D, ∀ y ∈ binds D, scope.names.lookup y.1 = some .local)
    (h : ∀ D g L' h₁, Stays s.heap g → Fr h₀ L g m → Fr g L' h₁ (fun y => (binds D).reverse.lookup y) → News g L' h₁ [(D, ({ cls := .type "tuple", data := .seq vs.toArray } : Obj))] → Below A base (env :: outer) g → K.In g → Top p loose mean mg mb g →
      wpAny (model prog w) (A.deeper (envOf qual scope L' f cdv)) (execs body (envOf qual scope L' f cdv))
        (fun fl s' => LeaveK h₀ L m g (KeepR s.heap R) (match fl with | .ret v => v | _ => .none) s')
        (fun e s' => wpAny (model prog w) (A.deeper (envOf qual scope L' f cdv)) (leaving (envOf qual scope L' f cdv) e) (fun _ s'' => R (.error e) s'') (fun e' s'' => R (.error e') s'') s')
        { s with heap := h₁, toks := s.toks + (binds D).length })
    (hco : scope.isCoroutine = false) (hgen : scope.isGenerator = false) (hk : scope.kind = .function)
    (hcell : ∀ x ∈ scope.names, x.2 ≠ .cell) : codeAny (model prog w) A (.call (.ref f) args) R s := by
  have _ := hv
  refine codeAny_call_function (fd := fnOf name qual params body scope dV kV doc pm an cdv ct) (body := body) hroom ((X₀.keeps F.keep) _ _ ho) rfl hco hgen rfl (codeRec_of (X₀.keeps F.keep) hcd) ?_
  refine wp_of_peek1c (X₀.keeps F.keep) (r := binds) ?_ _ g₁ hp hg
  have hL : L < s.heap.objs.size := F.ns.lt
  have N1 : News h₀ L (s.heap.push ({ cls := .type "tuple", data := .seq vs.toArray } : Obj)) [(s.heap.objs.size, ({ cls := .type "tuple", data := .seq vs.toArray } : Obj))] := fun p hp => by
    rw [List.mem_singleton.mp hp]
    exact ⟨Heap.get?_push_size _ rfl, Nat.ne_of_gt hL, Heap.get?_none_of_le (Nat.le_trans F.above (Nat.le_of_lt hL))⟩
  refine Classical.byContradiction fun hn9 => ?_
  obtain ⟨FG, BG, st, lv⟩ := groundX (R := R) (s := { s with heap := s.heap.push ({ cls := .type "tuple", data := .seq vs.toArray } : Obj) }) B (F.push _) N1 hA hf hke
  refine hn9 ?_
  clear hn9
  refine wpAny_newFunctionEnv hcell (hloc _) (fun h₁ hns hsb => ⟨(T.nolimit.keeps (F.push _).keep).fresh _ hsb, codeAny_func ?_⟩) hk
  have hk₁ : ∀ b o, (s.heap.push ({ cls := .type "tuple", data := .seq vs.toArray } : Obj)).get? b = some o → h₁.get? b = some o := fun b o e => hsb.extBut b o (Nat.ne_of_lt (Heap.lt_size e)) (Heap.get?_push_of_some _ e)
  have kb : Stays s.heap (hideAll (s.heap.push ({ cls := .type "tuple", data := .seq vs.toArray } : Obj)) [s.heap.objs.size]) := fun b o e => hideAll_get _ (Heap.get?_push_of_some _ e) (by
    rw [List.mem_singleton]; exact Nat.ne_of_lt (Heap.lt_size e))
  exact wpAny_mono (h s.heap.objs.size (hideAll (s.heap.push ({ cls := .type "tuple", data := .seq vs.toArray } : Obj)) [s.heap.objs.size]) _ h₁ kb FG ⟨hns, fun b o e => hk₁ b o (of_hideAll _ e), Nat.le_of_eq (hideAll_size _ _)⟩
    (fun p hp => by
      rw [List.mem_singleton.mp hp]
      exact ⟨hk₁ _ _ (Heap.get?_push_size _ rfl), Nat.ne_of_lt (by show s.heap.objs.size < (s.heap.push _).objs.size; rw [Heap.size_push]; exact Nat.lt_succ_self _), hideAll_none _ (.head _)⟩) BG (X₀.keeps st) (T.keeps st)) (fun fl s' hl => lv _ _ (leave_keeps kb hl)) fun _ _ y => y
end
end Mine
end

section
open PySem PySem.W PyProof.Rows
namespace Mine
local macro_rules | `(tactic| walk_at "no goal") => `(tactic| skip)
theorem freshT1 : True ∧ True := by
  k_with_none
  w_top off
  first | (walk1; done) | exact ⟨trivial, trivial⟩
end Mine
end

/-! part T1 -/
section
open PySem PySem.W PySem.W.X PyProof.Rows PySem.Calls
set_option maxRecDepth 100000
set_option maxHeartbeats 4000000
namespace Mine
def nmOf (b : Bool) : Str := if b then Str.ofString "b" else Str.ofString "a"
/-- a str by its signs -/
def sl (l : List Nat) : Str := ⟨l.toArray⟩
def cdOf (b : Bool) : Nat := if b then 98 else 97
def pcs (bs : List Bool) : List Nat := bs.flatMap fun b => [47, cdOf b]
/-- the path of pieces -/
def pth (bs : List Bool) : Str := sl (pcs bs)
theorem sl_app (x y : List Nat) : sl x ++ sl y = sl (x ++ y) := by
  show Str.append _ _ = _
  unfold Str.append sl
  simp
theorem slash_sl : Str.ofString "/" = sl [47] := by decide +kernel
theorem empty_sl : Str.ofString "" = sl [] := by decide +kernel
theorem nm_sl (b : Bool) : nmOf b = sl [cdOf b] := by cases b <;> decide +kernel
theorem pcs_app (x y : List Bool) : pcs (x ++ y) = pcs x ++ pcs y := by unfold pcs; simp
theorem pth_snoc (bs : List Bool) (b : Bool) : pth bs ++ (Str.ofString "/" ++ nmOf b) = pth (bs ++ [b]) := by
  rw [slash_sl, nm_sl, sl_app]
  unfold pth
  rw [sl_app, pcs_app]
  rfl
theorem pcs_len (bs : List Bool) : (pcs bs).length = 2 * bs.length := by
  induction bs with
  | nil => rfl
  | cons b r ih => unfold pcs at *; simp only [List.flatMap_cons, List.length_append, List.length_cons, List.length_nil] at *; omega
theorem sl_len (l : List Nat) : (sl l).length = l.length := by show (sl l).cps.size = _; unfold sl; simp
theorem pth_len (bs : List Bool) : (pth bs).length = 2 * bs.length := by unfold pth; rw [sl_len, pcs_len]
theorem ends_sl (l : List Nat) (c : Nat) (hc : c ≠ 47) : Txt.endswith (sl (l ++ [c])) (Str.ofString "/") = false := by
  rw [slash_sl]
  unfold Txt.endswith
  rw [StrLaws.subAt_eq, sl_len, sl_len]
  unfold sl
  simp [hc]
theorem pth_ends (bs : List Bool) (b : Bool) : Txt.endswith (pth (bs ++ [b])) (Str.ofString "/") = false := by
  unfold pth
  rw [pcs_app, show pcs [b] = [47] ++ [cdOf b] from rfl, ← List.append_assoc]
  exact ends_sl _ _ (by cases b <;> decide)
theorem nm_starts (b : Bool) : Txt.startswith (nmOf b) (Str.ofString "/") = false := by cases b <;> decide +kernel
theorem nm_len (b : Bool) : (nmOf b).length = 1 := by cases b <;> decide +kernel
theorem pth_one : Str.ofString "/b" = pth [true] := by decide +kernel
end Mine
end

section
open PySem PySem.W PyProof.Rows
namespace Mine
local macro_rules | `(tactic| walk_at "no goal") => `(tactic| skip)
theorem freshTL : True ∧ True := by
  k_with_none
  w_top off
  first | (walk1; done) | exact ⟨trivial, trivial⟩
end Mine
end

/-! part TL -/
section
open PySem PySem.W PySem.W.X PyProof.Rows PySem.Calls
set_option maxRecDepth 100000
set_option maxHeartbeats 4000000
namespace Mine
section
variable {prog : Program} {w : World} {A : Around} {E : Value → Shared → Prop} {s : Shared} {Q : Value → Shared → Prop}
theorem finB {x y x' y' : Int} (fin : ∀ b, b = decide (x < x' ∨ (x = x' ∧ y < y')) → Q (.bool b) s) {b : Bool} (h : b = decide (x < x' ∨ (x = x' ∧ y < y'))) : Q (.bool b) s := fin b h
local macro_rules | `(tactic| x_close) => `(tactic| (refine finB (by assumption) ?_; first | (symm; apply decide_eq_true; omega) | (symm; apply decide_eq_false; omega)))
theorem tuple_lt_x {a b : Addr} {x y x' y' : Int} {t u t' u' : Tok} (ha : s.heap.get? a = some ⟨.type "tuple", none, .seq #[.int x t, .int y u] 0, #[]⟩) (hb : s.heap.get? b = some ⟨.type "tuple", none, .seq #[.int x' t', .int y' u'] 0, #[]⟩)
    (fin : ∀ b, b = decide (x < x' ∨ (x = x' ∧ y < y')) → Q (.bool b) s) :
    wpAny (model prog w) A (PySem.call (.builtin "tuple.__lt__") [.ref a, .ref b]) Q E s := by
  x_run
end
section
variable {prog : Program} {w : World} {A : Around} {E : Value → Shared → Prop} {s : Shared} {Q : Value → Shared → Prop} {h₀ : Heap} {L : Addr} {m : Str → Option Value} {news : List (Addr × Obj)}
theorem tuple_lt_K {a b : Addr} {x y x' y' : Int} {t u t' u' : Tok} (hu : A.units < cLine) (N : News h₀ L s.heap news) (ha : (a, (⟨.type "tuple", none, .seq #[.int x t, .int y u] 0, #[]⟩ : Obj)) ∈ news) (hb : (b, (⟨.type "tuple", none, .seq #[.int x' t', .int y' u'] 0, #[]⟩ : Obj)) ∈ news)
    (h : ∀ b, b = decide (x < x' ∨ (x = x' ∧ y < y')) → Q (.bool b) s) :
    wpAny (model prog w) A (compareOp .Lt (.ref a) (.ref b)) Q E s :=
  cmp_ofLt (wpAny_richCompare_same_room ⟨_, (N _ ha).1, rfl⟩ ⟨_, (N _ hb).1, rfl⟩ PySem.F.slot_tuple_lt (tuple_lt_x (N _ ha).1 (N _ hb).1 fun b hb => ⟨by simp, h b hb⟩) hu)
theorem newTuple_P {items : List Value} (F : Fr h₀ L s.heap m) (N : News h₀ L s.heap news) (hsz : items.length ≤ 100)
    (h : Fr h₀ L (s.heap.push { cls := .type "tuple", data := .seq items.toArray }) m → News h₀ L (s.heap.push { cls := .type "tuple", data := .seq items.toArray }) ((s.heap.objs.size, { cls := .type "tuple", data := .seq items.toArray }) :: news) → Q (.ref s.heap.objs.size) { s with heap := s.heap.push { cls := .type "tuple", data := .seq items.toArray } }) :
    wpAny (model prog w) A (newTuple items) Q E s :=
  wpAny_newTuple (h (F.push _) (News.push F N _ rfl)) (by rw [sizeLine_eq]; omega)
end
end Mine
end

section
open PySem PySem.W PyProof.Rows
namespace Mine
local macro_rules | `(tactic| walk_at "no goal") => `(tactic| skip)
theorem freshT2 : True ∧ True := by
  k_with_none
  w_top off
  first | (walk1; done) | exact ⟨trivial, trivial⟩
end Mine
end

/-! part T2 -/
section
open PySem PySem.W PySem.W.X PyProof.Rows PySem.Calls
set_option maxRecDepth 100000
namespace Mine
def shr (d : Int) : Int := Int.fdiv 16 (2 ^ d.toNat)
def befB (ds : List Int) (k a : Nat) : Bool := decide (ds.getD a 0 < ds.getD k 0 ∨ (ds.getD a 0 = ds.getD k 0 ∧ a < k))
/-- the shares ahead of the mark -/
def ahead (ds : List Int) (k : Nat) : Int := (((List.range ds.length).filter (befB ds k)).map fun a => shr (ds.getD a 0)).sum
def bitOf (a : Int) (j : Nat) : Bool := decide (Int.fmod (Int.fdiv a (2 ^ (3 - j))) 2 = 1)
/-- the place that the law reckons -/
def placeOf (ds : List Int) (k : Nat) : Option (List Bool) :=
  if ahead ds k + shr (ds.getD k 0) > 16 then none else some (true :: (List.range (ds.getD k 0).toNat).map fun j => bitOf (ahead ds k) j)
theorem ints_paired {α : Type} {f : α → Int} : ∀ {l : List α} {ys : List Value}, Paired (fun a y => ∃ t, y = Value.int (f a) t) l ys → IntsAre ys (l.map f)
  | _, _, .nil => .nil
  | _, _, .cons ⟨t, e⟩ h => by subst e; exact .cons _ t (ints_paired h)
end Mine
namespace Mine
theorem strs_paired {α : Type} {f : α → Bool} : ∀ {l : List α} {ys : List Value}, Paired (fun a y => ∃ t, y = Value.str (nmOf (f a)) t) l ys → ∃ bt : List (Bool × Tok), ys = bt.map (fun p => Value.str (nmOf p.1) p.2) ∧ bt.map (·.1) = l.map f
  | _, _, .nil => ⟨[], rfl, rfl⟩
  | _, _, .cons ⟨t, e⟩ h => by
    obtain ⟨bt, e1, e2⟩ := strs_paired h
    subst e e1
    exact ⟨(_, t) :: bt, rfl, by simp [e2]⟩
end Mine
namespace Mine
theorem item_ab (x : Int) : Txt.item (Str.ofString "ab") (Int.fmod x 2) = nmOf (decide (Int.fmod x 2 = 1)) := by
  have h : Int.fmod x 2 = 0 ∨ Int.fmod x 2 = 1 := by
    rw [Int.fmod_eq_emod_of_nonneg _ (by decide)]; lia
  rcases h with e | e <;> rw [e] <;> decide +kernel
end Mine
namespace Mine
/-- a place as a value: None, or the text -/
def PlaceIs (o : Option (List Bool)) (v : Value) : Prop := match o with
  | none => v = .none
  | some bs => ∃ t, v = .str (pth bs) t
end Mine
end

section
open PySem PySem.W PyProof.Rows
namespace Mine
local macro_rules | `(tactic| walk_at "no goal") => `(tactic| skip)
theorem freshE2 : True ∧ True := by
  k_with_none
  w_top off
  first | (walk1; done) | exact ⟨trivial, trivial⟩
end Mine
end

/-! part E2 -/
section
open PySem PySem.W PySem.W.X PyProof.Rows PySem.Calls
set_option maxRecDepth 100000
set_option maxHeartbeats 4000000
namespace Mine
/-- all that stood stands, but for the ledger's own -/
def StaysBut (news : List (Addr × Obj)) (h h' : Heap) : Prop := ∀ b o, b ∉ news.map (·.1) → h.get? b = some o → h'.get? b = some o
def KeepN (news : List (Addr × Obj)) (h : Heap) (R : Result → Shared → Prop) : Result → Shared → Prop := fun r s' => StaysBut news h s'.heap → R r s'
theorem leave_keepsN {h₀ g h : Heap} {L : Addr} {m : Str → Option Value} {news : List (Addr × Obj)} {R : Result → Shared → Prop} {v : Value} {s' : Shared} (kb : StaysBut news h g) (x : LeaveK h₀ L m g (KeepN news h R) v s') : LeaveK h₀ L m g R v s' := by
  refine Classical.byContradiction fun hn9 => ?_
  obtain ⟨L', m', news', F', N', k⟩ := x
  refine hn9 ?_
  clear hn9
  exact ⟨L', m', news', F', N', fun a b => k a b (fun b o hb e => F'.keep b o (kb b o hb e))⟩
theorem StaysBut.stays {news : List (Addr × Obj)} {h h' : Heap} (k : StaysBut news h h') (n : ∀ p ∈ news, h.get? p.1 = some p.2) (n' : ∀ p ∈ news, h'.get? p.1 = some p.2) : Stays h h' := fun b o e => by
  by_cases hb : b ∈ news.map (·.1)
  · obtain ⟨p, hp, rfl⟩ := List.mem_map.mp hb
    have := n p hp
    rw [e] at this
    rw [Option.some.inj this]
    exact n' p hp
  · exact k b o hb e
section
variable {prog : Program} {w : World} {A A₀ : Around} {s : Shared} {K : Frag} {L : Addr} {h₀ base : Heap} {m mg mb : Str → Option Value} {news : List (Addr × Obj)} {p : Program} {loose : List Str} {mean : ExcName → Option Value}
theorem enter_PN {env : Env} {outer : List Env} {R : Result → Shared → Prop} {name qual : Str} {params : Arguments} {body : List Stmt} {scope : Scope} {dV kV doc pm cdv ct oc : Value} {an od : Option Addr} {osl : Array (Option Value)} {f : Addr} {args : Args} {binds : List (Str × Value)}
    (B : Below A₀ base outer h₀) (F : Fr h₀ L s.heap m) (X₀ : K.In h₀) (N : News h₀ L s.heap news) (T : Top p loose mean mg mb h₀) (hA : A.frames = some (env :: outer)) (hf : env.frame = some L) (hke : env.scope.kind = .function)
    (ho : K.lookup f = some ⟨oc, od, .func (fnOf name qual params body scope dV kV doc pm an cdv ct), osl⟩) (hcd : codeIn K cdv qual = true) (hroom : A.depth < recursionLimit)
    (hbind : BindsTo s (fnOf name qual params body scope dV kV doc pm an cdv ct) args binds) (hloc : ∀ y ∈ binds, scope.names.lookup y.1 = some .local)
    (h : ∀ g L' h₁, StaysBut news s.heap g → Fr h₀ L g m → Fr g L' h₁ (fun y => binds.reverse.lookup y) → News g L' h₁ news → Below A base (env :: outer) g → K.In g → Top p loose mean mg mb g →
      wpAny (model prog w) (A.deeper (envOf qual scope L' f cdv)) (execs body (envOf qual scope L' f cdv))
        (fun fl s' => LeaveK h₀ L m g (KeepN news s.heap R) (match fl with | .ret v => v | _ => .none) s')
        (fun e s' => wpAny (model prog w) (A.deeper (envOf qual scope L' f cdv)) (leaving (envOf qual scope L' f cdv) e) (fun _ s'' => R (.error e) s'') (fun e' s'' => R (.error e') s'') s')
        { s with heap := h₁, toks := s.toks + binds.length })
    (hco : scope.isCoroutine = false) (hgen : scope.isGenerator = false) (hk : scope.kind = .function)
    (hcell : ∀ x ∈ scope.names, x.2 ≠ .cell) : codeAny (model prog w) A (.call (.ref f) args) R s := by
  refine codeAny_call_function (fd := fnOf name qual params body scope dV kV doc pm an cdv ct) (body := body) hroom ((X₀.keeps F.keep) _ _ ho) rfl hco hgen rfl (codeRec_of (X₀.keeps F.keep) hcd) ?_
  refine hbind _ _ _ _ ?_
  refine Classical.byContradiction fun hn9 => ?_
  obtain ⟨FG, BG, st, lv⟩ := groundX (R := R) B F N hA hf hke
  refine hn9 ?_
  clear hn9
  refine wpAny_newFunctionEnv hcell hloc (fun h₁ hns hsb => ⟨(T.nolimit.keeps F.keep).fresh _ hsb, codeAny_func ?_⟩) hk
  have hk₁ : ∀ b o, s.heap.get? b = some o → h₁.get? b = some o := fun b o e => hsb.extBut b o (Nat.ne_of_lt (Heap.lt_size e)) (Heap.get?_push_of_some _ e)
  have kb : StaysBut news s.heap (hideAll s.heap (news.map (·.1))) := fun b o hb e => hideAll_get _ e hb
  exact wpAny_mono (h _ s.heap.objs.size h₁ kb FG ⟨hns, fun b o e => hk₁ b o (of_hideAll _ e), Nat.le_of_eq (hideAll_size _ _)⟩
    (fun p hp => ⟨hk₁ _ _ (N p hp).1, Nat.ne_of_lt (Heap.lt_size (N p hp).1), hideAll_none _ (List.mem_map_of_mem hp)⟩) BG (X₀.keeps st) (T.keeps st)) (fun fl s' hl => lv _ _ (leave_keepsN kb hl)) fun _ _ y => y
end
section
variable {prog : Program} {w : World} {A : Around} {E : Value → Shared → Prop} {s : Shared} {env : Env} {h₀ : Heap} {target : Expr} {body : List Stmt} {Q : Flow → Shared → Prop}
theorem iter_iterTurns {ax I : Addr} {lo : Obj} {vs : List Value} {n : Nat} {m₀ : Str → Option Value} {news : List (Addr × Obj)}
    (hh : A.handled = none) (F : Fr h₀ env.locals s.heap m₀) (N : News h₀ env.locals s.heap news) (hm : (ax, lo) ∈ news) (hc : lo.cls = .type "list") (hd : lo.data = .seq vs.toArray n)
    (hI : s.heap.IsListIter I ax 0) (hIL : I ≠ env.locals) (hI0 : h₀.get? I = none) (hIn : ∀ p ∈ news, p.1 ≠ I)
    (rest₀ : ItemsRest prog w A E h₀ env target body Q s [(I, "list_iterator")] [(ax, lo)] (vs.map .val) m₀ news) :
    wpAny (model prog w) A (pyIter (.ref I)) (fun it s₂ => TurnsAt prog w A h₀ env target body Q E it s₂) E s := by
  have hax := N _ hm
  have hl : s.heap.IsList ax vs.toArray := ⟨lo, hax.1, hc, n, hd⟩
  have hne : ax ≠ I := hIn _ hm
  refine wpAny_pyIter_listiter hI ?_
  refine ktu_core (tk0 := s.toks) (keep := [(ax, lo)]) (KTurns.ofWalks (Walks.list hh I ax hne vs.toArray) fun i v s Q E st q => letGo_listiter st.1 q) (by simp) (fun i v h hp => ⟨.val v, ?_, rfl⟩) (fun i h st => ?_) (fun b hb => ?_) (fun b hb => by simpa using hb) (fun b hb => ?_) ?_ (fun p hp hIm => ?_) ⟨hI, hl⟩ F N (And.intro hm trivial) rest₀
  · have hp' : vs.toArray[i]? = some v := hp
    simpa using hp'
  · refine Classical.byContradiction fun hn9 => ?_
    obtain ⟨it, hit, hic, _⟩ := st.1
    refine hn9 ?_
    clear hn9
    exact ⟨[(I, it)], ⟨⟨rfl, hic⟩, trivial⟩, fun p hp => by rw [List.mem_singleton.mp hp]; exact hit⟩
  · have hb' : b = I := by simpa using hb
    rw [hb']
    exact ⟨List.mem_cons_self .., hI0⟩
  · have hb' : b = I ∨ b = ax := by simpa using hb
    rcases hb' with e | e
    · exact .inl (by simp [e])
    · exact .inr ⟨lo, by simp [e]⟩
  · intro hIm
    rcases List.mem_cons.mp hIm with e | hIm
    · exact hIL e.symm
    · exact hax.2.1 (List.mem_singleton.mp hIm).symm
  · exact hIn p hp (List.mem_singleton.mp hIm)
theorem iter_call {l : Addr} {vs : Array Value} {Q : Value → Shared → Prop} (hl : s.heap.IsList l vs)
    (h : Q (.ref s.heap.objs.size) { s with heap := s.heap.push { cls := .type "list_iterator", data := .fields #[.ref l, .int 0 0] } }) :
    wpAny (model prog w) A (call (.builtin "iter") [.ref l]) Q E s := by
  refine call_function_entry (by decide +kernel) (by decide +kernel) kdk_entry_iter (kdk_args_iter _) ?_
  unfold Builtin.«iter»
  refine wpAny_bind (m := someArgs "iter" 1 2 _) (wpAny_of_eq (a := [Value.ref l]) (by first | rfl | kernel_rfl!) ?_)
  show wpAny _ _ (pyIter (.ref l) >>= _) _ _ _
  refine wpAny_bind (wpAny_pyIter_list hl ?_)
  exact wpAny_pure ⟨_, rfl, h⟩
/-- a loop's items by an invariant over what is left -/
theorem fold_items {α : Type} {ws : List (Addr × String)} {keep : List (Addr × Obj)} (I : List α → (Str → Option Value) → List (Addr × Obj) → Prop) (val : α → Value)
    (done : ∀ m n h tk, I [] m n → Fr h₀ env.locals h m → News h₀ env.locals h n → Q .next { s with heap := h, toks := tk })
    (turn : ∀ a r m n h tk, I (a :: r) m n → Fr h₀ env.locals h m → AllObj ws (fun its => News h₀ env.locals h (its ++ n) →
      wpAny (model prog w) A (assign target env (val a)) (fun _ s₂ => wpAny (model prog w) A (execs body env) (UnrPostW h₀ env.locals { s with heap := h, toks := tk } its (fun m' n' => SubL keep n' ∧ I r m' n') Q) E s₂) E { s with heap := h, toks := tk })) :
    ∀ (l : List α) (m : Str → Option Value) (n : List (Addr × Obj)), I l m n → ItemsRest prog w A E h₀ env target body Q s ws keep (l.map fun a => .val (val a)) m n
  | [], m, n, h => ItemsRest.zero fun h' tk F N => done m n h' tk h F N
  | a :: r, m, n, h => ItemsRest.val fun h' tk F => by
    have t := turn a r m n h' tk h F
    have ih := fun m' n' (x : I r m' n') => fold_items I val done turn r m' n' x
    revert t
    have up : ∀ (its : List (Addr × Obj)) (f : Flow) (s₂ : Shared), UnrPostW h₀ env.locals { s with heap := h', toks := tk } its (fun m' n' => SubL keep n' ∧ I r m' n') Q f s₂ →
        UnrPostW h₀ env.locals { s with heap := h', toks := tk } its (fun m' n' => SubL keep n' ∧ ItemsRest prog w A E h₀ env target body Q s ws keep (r.map fun a => .val (val a)) m' n') Q f s₂ := by
      intro its f s₂ x
      have end_ : UnrEndW h₀ env.locals { s with heap := h', toks := tk } its (fun m' n' => SubL keep n' ∧ I r m' n') s₂ → UnrEndW h₀ env.locals { s with heap := h', toks := tk } its (fun m' n' => SubL keep n' ∧ ItemsRest prog w A E h₀ env target body Q s ws keep (r.map fun a => .val (val a)) m' n') s₂ := by
        intro hx9
        refine Classical.byContradiction fun hn9 => ?_
        obtain ⟨h2, tk2, m2, n2, e, F2, N2, off, sub, i⟩ := hx9
        refine hn9 ?_
        clear hn9
        exact ⟨h2, tk2, m2, n2, e, F2, N2, off, sub, ih m2 n2 i⟩
      cases f with
      | ret v => exact x
      | brk => exact x
      | next => exact end_ x
      | cont => exact end_ x
    have all : ∀ (ws : List (Addr × String)) (k k' : List (Addr × Obj) → Prop), (∀ its, k its → k' its) → AllObj ws k → AllObj ws k' := by
      intro ws
      induction ws with
      | nil => intro k k' hk x; exact hk _ x
      | cons w ws ih2 => intro k k' hk x o ho; exact ih2 _ _ (fun its y => hk _ y) (x o ho)
    exact all ws _ _ fun its x N => wpAny_mono (x N) (fun _ s₂ y => wpAny_mono y (fun f s₃ z => up its f s₃ z) fun _ _ e => e) fun _ _ e => e
/-- a list's iterator goes onto the ledger -/
theorem iter_K {L l : Addr} {lo : Obj} {vs : List Value} {n : Nat} {m : Str → Option Value} {news : List (Addr × Obj)} {Q : Value → Shared → Prop} (F : Fr h₀ L s.heap m) (N : News h₀ L s.heap news) (hm : (l, lo) ∈ news) (hc : lo.cls = .type "list") (hd : lo.data = .seq vs.toArray n)
    (h : ∀ I h', Fr h₀ L h' m → News h₀ L h' ((I, ({ cls := .type "list_iterator", data := .fields #[.ref l, .int 0 0] } : Obj)) :: news) → (∀ p ∈ news, p.1 ≠ I) → Q (.ref I) { s with heap := h' }) :
    wpAny (model prog w) A (call (.builtin "iter") [.ref l]) Q E s :=
  iter_call (vs := vs.toArray) ⟨lo, (N _ hm).1, hc, n, hd⟩ (h _ _ (F.push _) (News.push F N _ rfl) fun p hp => Nat.ne_of_lt (Heap.lt_size (N p hp).1))
end
end Mine
end

section
open PySem PySem.W PyProof.Rows
namespace Mine
local macro_rules | `(tactic| walk_at "no goal") => `(tactic| skip)
theorem freshE3 : True ∧ True := by
  k_with_none
  w_top off
  first | (walk1; done) | exact ⟨trivial, trivial⟩
end Mine
end

/-! part E3 -/
section
open PySem PySem.W PySem.W.X PyProof.Rows PySem.Calls
set_option maxRecDepth 100000
set_option maxHeartbeats 4000000
namespace Mine
section
variable {prog : Program} {w : World} {A A₀ : Around} {s : Shared} {K : Frag} {L : Addr} {h₀ base : Heap} {m mg mb : Str → Option Value} {news : List (Addr × Obj)} {p : Program} {loose : List Str} {mean : ExcName → Option Value}
/-- a def with cells of its own -/
theorem enter_PC {env : Env} {outer : List Env} {R : Result → Shared → Prop} {name qual : Str} {params : Arguments} {body : List Stmt} {scope : Scope} {dV kV doc pm cdv ct oc : Value} {an od : Option Addr} {osl : Array (Option Value)} {f : Addr} {args : Args} {binds : List (Str × Value)}
    (B : Below A₀ base outer h₀) (F : Fr h₀ L s.heap m) (X₀ : K.In h₀) (N : News h₀ L s.heap news) (T : Top p loose mean mg mb h₀) (hA : A.frames = some (env :: outer)) (hf : env.frame = some L) (hke : env.scope.kind = .function)
    (ho : K.lookup f = some ⟨oc, od, .func (fnOf name qual params body scope dV kV doc pm an cdv ct), osl⟩) (hcd : codeIn K cdv qual = true) (hroom : A.depth < recursionLimit)
    (hbind : BindsTo s (fnOf name qual params body scope dV kV doc pm an cdv ct) args binds) (hkind : (binds.all fun y => scope.names.lookup y.1 == some .local || scope.names.lookup y.1 == some .cell) = true)
    (hnd : ((cellsFrom 0 scope.names []).map (·.1)).Nodup)
    (h : ∀ g L' h₁ tk cells, StaysBut news s.heap g → Fr h₀ L g m → Fr g L' h₁ (bindL (envOfC qual scope L' f cdv).kindOf binds fun _ => none) → News g L' h₁ (cells ++ news) →
      CellsAre (bindC (envOfC qual scope L' f cdv).kindOf binds fun _ => none) (cellsFrom (L' + 1) scope.names []) cells → Below A base (env :: outer) g → K.In g → Top p loose mean mg mb g → (∀ p ∈ news, p.1 < L') →
      wpAny (model prog w) (A.deeper (envOfC qual scope L' f cdv)) (execs body (envOfC qual scope L' f cdv))
        (fun fl s' => LeaveK h₀ L m g (KeepN news s.heap R) (match fl with | .ret v => v | _ => .none) s')
        (fun e s' => wpAny (model prog w) (A.deeper (envOfC qual scope L' f cdv)) (leaving (envOfC qual scope L' f cdv) e) (fun _ s'' => R (.error e) s'') (fun e' s'' => R (.error e') s'') s')
        { s with heap := h₁, toks := tk })
    (hco : scope.isCoroutine = false) (hgen : scope.isGenerator = false) (hk : scope.kind = .function) : codeAny (model prog w) A (.call (.ref f) args) R s := by
  refine Classical.byContradiction fun hn9 => ?_
  obtain ⟨FG, BG, st, lv⟩ := groundX (R := R) B F N hA hf hke
  refine hn9 ?_
  clear hn9
  refine codeAny_call_function (fd := fnOf name qual params body scope dV kV doc pm an cdv ct) (body := body) hroom ((X₀.keeps F.keep) _ _ ho) rfl hco hgen rfl (codeRec_of (X₀.keeps F.keep) hcd) (hbind _ _ _ _ ?_)
  refine wpAny_newFunctionEnv_cells hk (kindsX hkind _) fun env' he s' x => ?_
  subst he
  refine ⟨(T.nolimit.keeps F.keep).keeps x.toInCall.keep, codeAny_func ?_⟩
  refine Classical.byContradiction fun hn9 => ?_
  obtain ⟨h₁, tk, rfl, _⟩ := x.done
  refine hn9 ?_
  clear hn9
  have hk₁ := x.toInCall.keep
  have kb : StaysBut news s.heap (hideAll s.heap (news.map (·.1))) := fun b o hb e => hideAll_get _ e hb
  obtain ⟨cells, NC, Y⟩ := Cl.news (h₀ := s.heap) (Nat.le_refl _) fun n c hm => ⟨x.cell n c (lookup_of_mem_nodup (cellsFrom_names scope.names 0 (s.heap.objs.size + 1) [] [] rfl ▸ hnd) hm), x.above n c hm⟩
  refine wpAny_mono (h _ s.heap.objs.size h₁ tk cells kb FG ⟨x.toInCall.ns, fun b o e => hk₁ b o (of_hideAll _ e), Nat.le_of_eq (hideAll_size _ _)⟩ (fun p hp => ?_) Y BG (X₀.keeps st) (T.keeps st) (fun p hp => Heap.lt_size (N p hp).1)) (fun fl s' hl => lv _ _ (leave_keepsN kb hl)) fun _ _ y => y
  rcases List.mem_append.mp hp with hp | hp
  · refine ⟨(NC p hp).1, (NC p hp).2.1, ?_⟩
    cases q : (hideAll s.heap (news.map (·.1))).get? p.1 with
    | none => rfl
    | some o => have := of_hideAll _ q; rw [(NC p hp).2.2] at this; cases this
  · exact ⟨hk₁ _ _ (N p hp).1, Nat.ne_of_lt (Heap.lt_size (N p hp).1), hideAll_none _ (List.mem_map_of_mem hp)⟩
end
end Mine
end

section
open PySem PySem.W PyProof.Rows
namespace Mine
local macro_rules | `(tactic| walk_at "no goal") => `(tactic| skip)
theorem freshE4 : True ∧ True := by
  k_with_none
  w_top off
  first | (walk1; done) | exact ⟨trivial, trivial⟩
end Mine
end

/-! part E4 -/
section
open PySem PySem.W PySem.W.X PyProof.Rows PySem.Calls
set_option maxRecDepth 100000
set_option maxHeartbeats 4000000
namespace Mine
def Halt (P : Prop) : Prop := P
theorem Halt.of {P : Prop} (h : Halt P) : P := h
theorem Halt.go {P : Prop} (h : P) : Halt P := h
section
variable {prog : Program} {w : World} {A : Around} {E : Value → Shared → Prop} {s : Shared} {env : Env}
theorem one_test {c : Expr} {cenv : Env} {b : Bool} {s₂ : Shared} {E' : Value → Shared → Prop}
    (h : wpAny (model prog w) A (isTrue c cenv (eval c cenv)) (fun ok s₃ => ok = b ∧ Keeps s₂ s₃) E' s₂) :
    wpAny (model prog w) A (forIn [c] true fun c r => if r = true then do let ok ← isTrue c cenv (eval c cenv); pure (ForInStep.yield ok) else pure (ForInStep.yield r)) (fun ok s₃ => ok = b ∧ Keeps s₂ s₃) E' s₂ := by
  rw [List.forIn_cons, if_pos rfl]
  refine wpAny_bind (wpAny_bind (wpAny_mono h (fun ok s₃ hq => wpAny_pure ?_) fun _ _ e => e))
  show wpAny _ _ (forIn [] ok _) _ _ _
  rw [List.forIn_nil]
  exact wpAny_pure hq
theorem no_test {cenv : Env} {s₂ : Shared} {E' : Value → Shared → Prop} :
    wpAny (model prog w) A (forIn ([] : List Expr) true fun c r => if r = true then do let ok ← isTrue c cenv (eval c cenv); pure (ForInStep.yield ok) else pure (ForInStep.yield r)) (fun ok s₃ => ok = true ∧ Keeps s₂ s₃) E' s₂ := by
  rw [List.forIn_nil]
  exact wpAny_pure ⟨rfl, s₂.heap, s₂.toks, rfl, fun _ _ e => e⟩
theorem paired_map {α β γ : Type} {F : β → γ → Prop} {G : α → γ → Prop} {f : α → β} (hg : ∀ a y, F (f a) y → G a y) : ∀ (l : List α) (ys : List γ), Paired F (l.map f) ys → Paired G l ys
  | [], _, h => by cases h; exact .nil
  | a :: l, _, h => by
    cases h with
    | cons h1 h2 => exact .cons (hg _ _ h1) (paired_map hg l _ h2)
theorem paired_rng {n : Nat} {pz : Nat → Bool} {p : Value → Bool} {F : Value → Value → Prop} {G : Nat → Value → Prop} {vs ys : List Value} (hl : vs.length = n) (hv : ∀ (j : Nat) v, vs[j]? = some v → ∃ t, v = .int (j : Int) t) (hp : ∀ (j : Nat) t, p (.int (j : Int) t) = pz j)
    (hg : ∀ (j : Nat) t y, F (.int (j : Int) t) y → G j y) (h : Paired F (vs.filter p) ys) : Paired G ((List.range n).filter pz) ys := by
  have e : vs = (List.range n).map fun j => vs.getD j .none := by
    apply List.ext_getElem
    · simp [hl]
    · intro i h1 h2
      simp [h1]
  have hf : ∀ j, j < n → ∃ t, vs.getD j .none = .int (j : Int) t := fun j hj => by
    obtain ⟨t, ht⟩ := hv j (vs[j]'(by lia)) (List.getElem?_eq_getElem (by lia))
    refine ⟨t, ?_⟩
    rw [List.getD_eq_getElem?_getD, List.getElem?_eq_getElem (by lia)]
    exact ht
  rw [e, List.filter_map] at h
  have ef : (List.range n).filter (p ∘ fun j => vs.getD j .none) = (List.range n).filter pz := List.filter_congr fun j hj => by
    obtain ⟨t, ht⟩ := hf j (List.mem_range.mp hj)
    show p (vs.getD j .none) = pz j
    rw [ht, hp]
  rw [ef] at h
  have key : ∀ (l : List Nat) (ys : List Value), (∀ j ∈ l, j < n) → Paired F (l.map fun j => vs.getD j .none) ys → Paired G l ys := by
    intro l
    induction l with
    | nil => intro ys _ h; cases h; exact .nil
    | cons a l ih =>
      intro ys hj h
      cases h with
      | cons h1 h2 =>
        obtain ⟨t, ht⟩ := hf a (hj a (.head _))
        have h1' : F (vs.getD a .none) _ := h1
        rw [ht] at h1'
        exact .cons (hg a t _ h1') (ih _ (fun j hm => hj j (.tail _ hm)) h2)
  exact key _ _ (fun j hm => List.mem_range.mp (List.mem_filter.mp hm).1) h
theorem int_back {n j : Nat} {t : Tok} {y : Value} {G : Nat → Value → Prop} (h : ∃ (a : Nat) (t' : Tok), Value.int (j : Int) t = Value.int (a : Int) t' ∧ a < n ∧ G a y) : G j y := by
  obtain ⟨a, t', e, _, hg⟩ := h
  have e1 : (j : Int) = (a : Int) := (Value.int.inj e).1
  have : a = j := by lia
  exact this ▸ hg
/-- a comprehension over range(n) -/
theorem comp_rng {elt iter : Expr} {x : Str} {px : Pos} {ifs : List Expr} {scope : Scope} {cl : List (Str × Addr)} {pos : Pos} {Q : Value → Shared → Prop} {n : Nat} {pz : Nat → Bool} {G : Nat → Value → Prop}
    (hh : A.handled = none) (hclos : closureFor scope env = pure cl) (hcell : ∀ y ∈ scope.names, y.2 ≠ .cell) (hkind : scope.kind = .function)
    (hnames : ∀ y ∈ scope.names, y.2 = .local → scope.names.lookup y.1 = some .local) (hx : scope.names.lookup x = some .local) (hn : n ≤ 1000)
    (hit : ∀ R : Value → Shared → Prop, (∀ r t₀ u₀ v₀ h₁ tk₁, IsRange h₁ r 0 n 1 t₀ u₀ v₀ → Stays s.heap h₁ → R (.ref r) { s with heap := h₁, toks := tk₁ }) → wpAny (model prog w) A (eval iter env) R E s)
    (htests : ∀ C (a : Nat) t s₂ m₂ E', (∀ b o, s.heap.get? b = some o → b < C) → a < n → s₂.heap.Ns C m₂ → m₂ x = some (.int (a : Int) t) → Stays s.heap s₂.heap →
      wpAny (model prog w) A (forIn ifs true fun c r => if r = true then do let ok ← isTrue c (compEnvC scope cl C env) (eval c (compEnvC scope cl C env)); pure (ForInStep.yield ok) else pure (ForInStep.yield r))
          (fun ok s₃ => ok = pz a ∧ Keeps s₂ s₃) E' s₂)
    (helt : ∀ C (a : Nat) t s₂ m₂ E', (∀ b o, s.heap.get? b = some o → b < C) → a < n → pz a = true → s₂.heap.Ns C m₂ → m₂ x = some (.int (a : Int) t) → Stays s.heap s₂.heap →
        wpAny (model prog w) A (eval elt (compEnvC scope cl C env)) (fun y s₃ => G a y ∧ Keeps s₂ s₃) E' s₂)
    (hQ : ∀ D (ys : List Value) h' tk, s.heap.get? D = none → h'.IsList D ys.toArray → h'.PlainList D ys.toArray → Paired G ((List.range n).filter pz) ys → Stays s.heap h' → Q (.ref D) { s with heap := h', toks := tk })
    (hs : ∀ x, foldedSetIterable iter env x = pure x) :
    wpAny (model prog w) A (eval (.ListComp elt [⟨.Name x px, iter, ifs, 0⟩] scope pos) env) Q E s := by
  have hsmall : Builtin.Range.small 0 (n : Int) 1 = true := small_one (a := 0) (b := (n : Int)) (by decide) (by decide) (by lia) (by lia)
  have hrs : Builtin.Range.rangeSize 0 (n : Int) 1 = (n : Int) := by
    simp [Builtin.Range.rangeSize]
    intro h; lia
  refine wpAny_ListComp_free (fun v => match v with | .int a _ => pz a.toNat | _ => false) (fun v y => ∃ (a : Nat) (t : Tok), v = .int (a : Int) t ∧ a < n ∧ G a y) hclos hcell hkind hnames hx
    (hit _ fun r t₀ u₀ v₀ h₁ tk₁ hr hst₁ => ?_) hs
  have up : ∀ (h₃ : Heap), (∀ b o, b ∉ [h₁.objs.size] → (h₁.push { cls := .type "range_iterator", data := .fields #[rawInt 0, rawInt (Builtin.Range.rangeSize 0 n 1), rawInt 1] }).get? b = some o → h₃.get? b = some o) → Stays s.heap h₃ :=
    fun h₃ hk b o e => hk b o (fun hm => by rcases List.mem_cons.mp hm with rfl | hm; exact Nat.lt_irrefl _ (Heap.lt_size (hst₁ _ _ e)); cases hm) (Heap.get?_push_of_some _ (hst₁ _ _ e))
  have fresh : ∀ C, (h₁.push { cls := .type "range_iterator", data := .fields #[rawInt 0, rawInt (Builtin.Range.rangeSize 0 n 1), rawInt 1] }).objs.size ≤ C → ∀ b o, s.heap.get? b = some o → b < C := fun C hC b o e => by
    rw [Heap.size_push] at hC
    exact Nat.lt_of_lt_of_le (Nat.lt_succ_of_lt (Heap.lt_size (hst₁ b o e))) hC
  refine wpAny_pyIter_range (s := { s with heap := h₁, toks := tk₁ }) hr hsmall ⟨h₁.objs.size, [h₁.objs.size], [h₁.objs.size], n, _, _, rfl, (Walks.range hh _ 0 1 n).bound, (by rw [sizeLine_eq]; lia), (by show IsRangeIter _ _ _ _ _; rw [hrs]; simpa using Heap.get?_push_size _ rfl), ?_, ⟨?_, ?_⟩, ?_⟩
  · intro b hb
    show b < (h₁.push _).objs.size
    rw [Heap.size_push]
    rcases List.mem_cons.mp hb with rfl | hb
    · exact Nat.lt_succ_self _
    · cases hb
  · intro C i v s₃ m₃ E' hC hP hn' hm hk _
    obtain ⟨hi, t, rfl⟩ := hP
    rw [show (0 : Int) + (i : Int) * 1 = (i : Int) by lia] at hm ⊢
    exact htests C i t s₃ m₃ E' (fresh C hC) hi hn' hm (up _ hk)
  · intro C i v s₃ m₃ E' hC hP hp hn' hm hk _
    obtain ⟨hi, t, rfl⟩ := hP
    rw [show (0 : Int) + (i : Int) * 1 = (i : Int) by lia] at hm hp ⊢
    exact wpAny_mono (helt C i t s₃ m₃ E' (fresh C hC) hi hp hn' hm (up _ hk)) (fun y s₄ h₄ => ⟨⟨i, t, rfl, hi, h₄.1⟩, h₄.2⟩) fun _ _ e => e
  · intro D h' tk ys vs hnew hlD hplD hlen hP hF hk
    refine hQ D ys.toList h' tk ?_ (by rw [Array.toArray_toList]; exact hlD) (by rw [Array.toArray_toList]; exact hplD) (paired_rng hlen (fun j v hv => ?_) (fun j t => by show pz (Int.toNat (j : Int)) = _; rw [Int.toNat_natCast]) (fun j t y hy => ?_) hF) (up h' hk)
    · cases e : s.heap.get? D with
      | none => rfl
      | some o => rw [Heap.get?_push_of_some _ (hst₁ _ _ e)] at hnew; cases hnew
    · obtain ⟨_, t, e⟩ := hP j v hv
      exact ⟨t, by rw [e, show (0 : Int) + (j : Int) * 1 = (j : Int) by lia]⟩
    · have hy' : ∃ (a : Nat) (t' : Tok), Value.int (j : Int) t = Value.int (a : Int) t' ∧ a < n ∧ G a y := hy
      exact int_back hy'
/-- a comprehension over a list -/
theorem comp_lst {elt iter : Expr} {x : Str} {px : Pos} {ifs : List Expr} {scope : Scope} {cl : List (Str × Addr)} {pos : Pos} {Q : Value → Shared → Prop} {l : Addr} {vs : List Value} {p : Value → Bool} {G : Value → Value → Prop}
    (hh : A.handled = none) (hclos : closureFor scope env = pure cl) (hcell : ∀ y ∈ scope.names, y.2 ≠ .cell) (hkind : scope.kind = .function)
    (hnames : ∀ y ∈ scope.names, y.2 = .local → scope.names.lookup y.1 = some .local) (hx : scope.names.lookup x = some .local) (hn : vs.length ≤ 1000)
    (hit : ∀ R : Value → Shared → Prop, (∀ h₁ tk₁, h₁.IsList l vs.toArray → Stays s.heap h₁ → R (.ref l) { s with heap := h₁, toks := tk₁ }) → wpAny (model prog w) A (eval iter env) R E s)
    (htests : ∀ C v s₂ m₂ E', (∀ b o, s.heap.get? b = some o → b < C) → v ∈ vs → s₂.heap.Ns C m₂ → m₂ x = some v → Stays s.heap s₂.heap →
      wpAny (model prog w) A (forIn ifs true fun c r => if r = true then do let ok ← isTrue c (compEnvC scope cl C env) (eval c (compEnvC scope cl C env)); pure (ForInStep.yield ok) else pure (ForInStep.yield r))
          (fun ok s₃ => ok = p v ∧ Keeps s₂ s₃) E' s₂)
    (helt : ∀ C v s₂ m₂ E', (∀ b o, s.heap.get? b = some o → b < C) → v ∈ vs → p v = true → s₂.heap.Ns C m₂ → m₂ x = some v → Stays s.heap s₂.heap →
        wpAny (model prog w) A (eval elt (compEnvC scope cl C env)) (fun y s₃ => G v y ∧ Keeps s₂ s₃) E' s₂)
    (hQ : ∀ D (ys : List Value) h' tk, s.heap.get? D = none → h'.IsList D ys.toArray → h'.PlainList D ys.toArray → Paired G (vs.filter p) ys → Stays s.heap h' → Q (.ref D) { s with heap := h', toks := tk })
    (hs : ∀ x, foldedSetIterable iter env x = pure x) :
    wpAny (model prog w) A (eval (.ListComp elt [⟨.Name x px, iter, ifs, 0⟩] scope pos) env) Q E s := by
  refine wpAny_ListComp_free p G hclos hcell hkind hnames hx (hit _ fun h₁ tk₁ hl hst₁ => ?_) hs
  have hlt : l < h₁.objs.size := by obtain ⟨_, e, _⟩ := hl; exact Heap.lt_size e
  have up : ∀ (h₃ : Heap), (∀ b o, b ∉ [h₁.objs.size] → (h₁.push { cls := .type "list_iterator", data := .fields #[.ref l, .int 0 0] }).get? b = some o → h₃.get? b = some o) → Stays s.heap h₃ :=
    fun h₃ hk b o e => hk b o (fun hm => by rcases List.mem_cons.mp hm with rfl | hm; exact Nat.lt_irrefl _ (Heap.lt_size (hst₁ _ _ e)); cases hm) (Heap.get?_push_of_some _ (hst₁ _ _ e))
  have fresh : ∀ C, (h₁.push { cls := .type "list_iterator", data := .fields #[.ref l, .int 0 0] }).objs.size ≤ C → ∀ b o, s.heap.get? b = some o → b < C := fun C hC b o e => by
    rw [Heap.size_push] at hC
    exact Nat.lt_of_lt_of_le (Nat.lt_succ_of_lt (Heap.lt_size (hst₁ b o e))) hC
  refine wpAny_pyIter_list (s := { s with heap := h₁, toks := tk₁ }) hl ⟨h₁.objs.size, [h₁.objs.size, l], [h₁.objs.size], vs.toArray.size, _, _, rfl, Walks.list hh _ _ (Nat.ne_of_lt hlt) vs.toArray, (by rw [List.size_toArray, sizeLine_eq]; lia), ⟨⟨_, Heap.get?_push_size _ rfl, rfl, rfl⟩, hl.push _⟩, ?_, ⟨?_, ?_⟩, ?_⟩
  · intro b hb
    show b < (h₁.push _).objs.size
    rw [Heap.size_push]
    rcases List.mem_cons.mp hb with rfl | hb
    · exact Nat.lt_succ_self _
    · rcases List.mem_cons.mp hb with rfl | hb
      · exact Nat.lt_succ_of_lt hlt
      · cases hb
  · intro C i v s₃ m₃ E' hC hP hn' hm hk _
    exact htests C v s₃ m₃ E' (fresh C hC) (by simpa using Array.mem_of_getElem? hP) hn' hm (up _ hk)
  · intro C i v s₃ m₃ E' hC hP hp hn' hm hk _
    exact helt C v s₃ m₃ E' (fresh C hC) (by simpa using Array.mem_of_getElem? hP) hp hn' hm (up _ hk)
  · intro D h' tk ys vs' hnew hlD hplD hlen hP hF hk
    have e : vs' = vs := by simpa using list_of_places hlen hP
    subst e
    refine hQ D ys.toList h' tk ?_ (by rw [Array.toArray_toList]; exact hlD) (by rw [Array.toArray_toList]; exact hplD) hF (up h' hk)
    cases e : s.heap.get? D with
    | none => rfl
    | some o => rw [Heap.get?_push_of_some _ (hst₁ _ _ e)] at hnew; cases hnew
end
end Mine
end

section
open PySem PySem.W PyProof.Rows
namespace Mine
local macro_rules | `(tactic| walk_at "no goal") => `(tactic| skip)
local macro_rules | `(tactic| walk_at "no goal") => `(tactic| skip)
theorem freshJ1 : True ∧ True := by
  k_with_none
  w_top off
  first | (walk1; done) | exact ⟨trivial, trivial⟩
end Mine
end

/-! part J1 -/
section
open PySem PySem.W PySem.W.X PyProof.Rows
set_option maxRecDepth 100000
set_option maxHeartbeats 4000000
namespace Mine
local macro_rules | `(tactic| omega) => `(tactic| lia)
local macro_rules | `(tactic| walk_at $s:str) => `(tactic| k_extra $s)
local macro_rules | `(tactic| k_types) => `(tactic| first | with_reducible assumption | (apply And.right; first | with_reducible assumption | (apply And.right; first | with_reducible assumption | (apply And.right; first | with_reducible assumption | (apply And.right; first | with_reducible assumption | (apply And.right; first | with_reducible assumption | (apply And.right; first | with_reducible assumption | (apply And.right; first | with_reducible assumption | (apply And.right; first | with_reducible assumption | (apply And.right; first | with_reducible assumption | (apply And.right; first | with_reducible assumption | (apply And.right; first | with_reducible assumption | (apply And.right; first | with_reducible assumption | (apply And.right; first | with_reducible assumption | (apply And.right; with_reducible assumption)))))))))))))))
local macro_rules | `(tactic| k_ne) => `(tactic| (refine neN ?_; (try dsimp only); first | (first | k_types | (apply And.left; k_types)) | (refine Ne.symm ?_; (first | k_types | (apply And.left; k_types))) | (refine Nat.ne_of_lt ?_; (first | k_types | (apply And.left; k_types))) | (refine Nat.ne_of_gt ?_; (first | k_types | (apply And.left; k_types)))))
local macro_rules | `(tactic| k_room) => `(tactic| ((try simp only [depth_under_make, depth_under_kw, depth_in1, depth_deeper, depth_caller]); first | decide | (have : recursionLimit = 1000 := by decide
                                                                                                                                                                 omega)))
section
variable {w : World} {A A₀ : Around} {base h₀ : Heap} {outer : List Env} {env : Env} {E : Value → Shared → Prop} {s : Shared} {L : Addr} {m mg mb : Str → Option Value} {pp : Program} {loose : List Str} {mean : ExcName → Option Value} {Q : Value → Shared → Prop}
theorem fspath_K {a : Str} {t : Tok}
    (B : Below A₀ base outer h₀) (F : Fr h₀ L s.heap m) (KX : (hd.heap_1 w.params).In h₀) (T : Top pp loose mean mg mb h₀)
    (hA : A.frames = some (env :: outer)) (hf : env.frame = some L) (hke : env.scope.kind = .function) (hroom : A.depth < 900)
    (h : ∀ h' tk, Stays s.heap h' → Q (.str a t) { s with heap := h', toks := tk }) :
    wpAny (model PySem.Challenge.pw_qw0044_01 w) A (PySem.call (.ref 194) [.str a t]) Q E s := by
  k_with_none
  k_with "execs cons" => ((k_here; refine PySem.wpAny_execs_cons ?_; (try k_fold)))
  k_with "eval Call" => ((k_here; k_fold; walk1))
  k_with "eval Call Attribute" => ((k_here; k_fold; walk1))
  k_with "eval BinOp" => ((k_here; k_fold; walk1))
  k_with "eval Compare" => ((k_here; k_fold; walk1))
  k_with "eval Subscript" => ((k_here; k_fold; walk1))
  k_with "isTrue Compare" => ((k_here; k_fold; walk1))
  k_with "call builtin:issubclass" => ((k_here; (refine' issub_str ?h ?_; (case h => exact News.get (by k_asm) (by k_mem)))))
  k_with "pyIter ref" => ((k_here; (with_reducible show wpAny _ _ (pyIter (Value.ref _)) (fun it s₂ => TurnsAt _ _ _ _ _ _ _ _ _ it s₂) _ _); (rename Fr _ _ _ _ => lF'9k); (rename News _ _ _ _ => lN'9k); (rename Around.handled _ = none => lH'); (with_unfolding_all refine iter_tupTurns lH' lF'9k lN'9k (List.Mem.head _) rfl rfl ?_); intro i'9k l19k; (try k_lt l19k)))
  revert KX
  have h0 : PySem.Challenge.rw_qw0044_01.Holds ∨ True := .inr trivial
  revert h0
  k_fill
  intro h0 KX
  clear h0
  refine wpAny_call ?_
  refine' enter_P B F KX T hA hf hke ?k6 ?k7 ?k8 ?k9 ?kB ?_ ?c2 ?c3 ?c4 ?c5
  case k6 => k_is
  case k7 => k_is
  case k8 => k_room
  case k9 => exact BindsTo.of_eq rfl
  case kB => exact locs rfl
  case c2 => rfl
  case c3 => rfl
  case c4 => rfl
  case c5 => decide
  intro g' L' h' kb FG' F' N' B' X' T'
  (try dsimp only)
  (try k_lift B')
  k_steps
  exact fun kS => h _ _ kS
theorem sep_K {a : Str} {t : Tok}
    (B : Below A₀ base outer h₀) (F : Fr h₀ L s.heap m) (KX : (hd.heap_1 w.params).In h₀) (T : Top pp loose mean mg mb h₀)
    (hA : A.frames = some (env :: outer)) (hf : env.frame = some L) (hke : env.scope.kind = .function) (hroom : A.depth < 900)
    (h : ∀ h' tk tv, Stays s.heap h' → Q (.str (Str.ofString "/") tv) { s with heap := h', toks := tk }) :
    wpAny (model PySem.Challenge.pw_qw0044_01 w) A (PySem.call (.ref 208) [.str a t]) Q E s := by
  k_with_none
  k_with "execs cons" => ((k_here; refine PySem.wpAny_execs_cons ?_; (try k_fold)))
  k_with "eval Call" => ((k_here; k_fold; walk1))
  k_with "eval Call Attribute" => ((k_here; k_fold; walk1))
  k_with "eval BinOp" => ((k_here; k_fold; walk1))
  k_with "eval Compare" => ((k_here; k_fold; walk1))
  k_with "eval Subscript" => ((k_here; k_fold; walk1))
  k_with "isTrue Compare" => ((k_here; k_fold; walk1))
  k_with "call builtin:issubclass" => ((k_here; (refine' issub_str ?h ?_; (case h => exact News.get (by k_asm) (by k_mem)))))
  k_with "pyIter ref" => ((k_here; (with_reducible show wpAny _ _ (pyIter (Value.ref _)) (fun it s₂ => TurnsAt _ _ _ _ _ _ _ _ _ it s₂) _ _); (rename Fr _ _ _ _ => lF'9k); (rename News _ _ _ _ => lN'9k); (rename Around.handled _ = none => lH'); (with_unfolding_all refine iter_tupTurns lH' lF'9k lN'9k (List.Mem.head _) rfl rfl ?_); intro i'9k l19k; (try k_lt l19k)))
  k_with "call ref" => ((k_here; (with_reducible show wpAny _ _ (PySem.call (Value.ref 194) _) _ _ _); k_dflt (refine' fspath_K ?B ?F ?X ?T ?hA ?hf ?hke ?hr ?_; (case B => k_asm); (case F => k_asm); (case X => k_asm); (case T => k_asm); (case hA => first | exact rfl | exact Around.frames_deeper (by assumption)); (case hf => exact rfl); (case hke => exact rfl); (case hr => (simp only [depth_deeper]; omega))); intro h'9k tk'9k kS'9k; (rename Fr _ _ _ _ => kF99k); (rename News _ _ _ _ => kN99k); have F'9k := Stays.fr kS'9k kF99k; have N'9k := Stays.news kS'9k kN99k; clear kS'9k kF99k kN99k; (try dsimp only)))
  revert KX
  have h0 : PySem.Challenge.rw_qw0044_01.Holds ∨ True := .inr trivial
  revert h0
  k_fill
  intro h0 KX
  clear h0
  refine wpAny_call ?_
  refine' enter_P B F KX T hA hf hke ?k6 ?k7 ?k8 ?k9 ?kB ?_ ?c2 ?c3 ?c4 ?c5
  case k6 => k_is
  case k7 => k_is
  case k8 => k_room
  case k9 => exact BindsTo.of_eq rfl
  case kB => exact locs rfl
  case c2 => rfl
  case c3 => rfl
  case c4 => rfl
  case c5 => decide
  intro g' L' h' kb FG' F' N' B' X' T'
  (try dsimp only)
  (try k_lift B')
  k_steps
  exact fun kS => h _ _ _ kS
theorem join_K {a b : Str} {t u : Tok} (hh : A.handled = none) (ha : Txt.endswith a (Str.ofString "/") = false) (hb : Txt.startswith b (Str.ofString "/") = false) (hae : 1 ≤ a.length) (la : a.length ≤ 100) (lb : b.length ≤ 100)
    (B : Below A₀ base outer h₀) (F : Fr h₀ L s.heap m) (KX : (hd.heap_1 w.params).In h₀) (T : Top pp loose mean mg mb h₀)
    (hA : A.frames = some (env :: outer)) (hf : env.frame = some L) (hke : env.scope.kind = .function) (hroom : A.depth < 800)
    (h : ∀ h' tk tv, Stays s.heap h' → Q (.str (a ++ (Str.ofString "/" ++ b)) tv) { s with heap := h', toks := tk }) :
    wpAny (model PySem.Challenge.pw_qw0044_01 w) A (PySem.call (.ref 215) [.str a t, .str b u]) Q E s := by
  k_with_none
  k_with "execs cons" => ((k_here; refine PySem.wpAny_execs_cons ?_; (try k_fold)))
  k_with "eval Call" => ((k_here; k_fold; walk1))
  k_with "eval Call Attribute" => ((k_here; k_fold; walk1))
  k_with "eval BinOp" => ((k_here; k_fold; walk1))
  k_with "eval Compare" => ((k_here; k_fold; walk1))
  k_with "eval Subscript" => ((k_here; k_fold; walk1))
  k_with "isTrue Compare" => ((k_here; k_fold; walk1))
  k_with "call builtin:issubclass" => ((k_here; (refine' issub_str ?h ?_; (case h => exact News.get (by k_asm) (by k_mem)))))
  k_with "pyIter ref" => ((k_here; (with_reducible show wpAny _ _ (pyIter (Value.ref _)) (fun it s₂ => TurnsAt _ _ _ _ _ _ _ _ _ it s₂) _ _); (rename Fr _ _ _ _ => lF'9k); (rename News _ _ _ _ => lN'9k); (rename Around.handled _ = none => lH'); (with_unfolding_all refine iter_tupTurns lH' lF'9k lN'9k (List.Mem.head _) rfl rfl ?_); intro i'9k l19k; (try k_lt l19k)))
  k_with "call ref" => ((k_here; (with_reducible show wpAny _ _ (PySem.call (Value.ref 194) _) _ _ _); k_dflt (refine' fspath_K ?B ?F ?X ?T ?hA ?hf ?hke ?hr ?_; (case B => k_asm); (case F => k_asm); (case X => k_asm); (case T => k_asm); (case hA => first | exact rfl | exact Around.frames_deeper (by assumption)); (case hf => exact rfl); (case hke => exact rfl); (case hr => (simp only [depth_deeper]; omega))); intro h'9k tk'9k kS'9k; (rename Fr _ _ _ _ => kF99k); (rename News _ _ _ _ => kN99k); have F'9k := Stays.fr kS'9k kF99k; have N'9k := Stays.news kS'9k kN99k; clear kS'9k kF99k kN99k; (try dsimp only)))
  k_with "call ref" => ((k_here; (with_reducible show wpAny _ _ (PySem.call (Value.ref 208) _) _ _ _); k_dflt (refine' sep_K ?B ?F ?X ?T ?hA ?hf ?hke ?hr ?_; (case B => k_asm); (case F => k_asm); (case X => k_asm); (case T => k_asm); (case hA => first | exact rfl | exact Around.frames_deeper (by assumption)); (case hf => exact rfl); (case hke => exact rfl); (case hr => (simp only [depth_deeper]; omega))); intro h'9k tk'9k tv'9k kS'9k; (rename Fr _ _ _ _ => kF99k); (rename News _ _ _ _ => kN99k); have F'9k := Stays.fr kS'9k kF99k; have N'9k := Stays.news kS'9k kN99k; clear kS'9k kF99k kN99k; (try dsimp only)))
  revert KX
  have h0 : PySem.Challenge.rw_qw0044_01.Holds ∨ True := .inr trivial
  revert h0
  k_fill
  intro h0 KX
  clear h0
  refine wpAny_call ?_
  refine' enter_PR B F KX T hA hf hke ?k6 ?k7 ?k8 ?kV ?kP ?kG ?kB ?_ ?c2 ?c3 ?c4 ?c5
  case k6 => k_is
  case k7 => k_is
  case k8 => k_room
  case kV => kl_lit
  case kP => exact rfl
  case kG => exact fun _ => rfl
  case kB => exact fun _ => locs rfl
  case c5 => decide
  case c2 => exact rfl
  case c3 => exact rfl
  case c4 => exact rfl
  intro D' g' L' h' kb FG' F' N' B' X' T'
  (try dsimp only)
  (try k_lift B')
  k_steps
  all_goals (try (exfalso; omega))
  exact fun kS => h _ _ _ kS
end
end Mine
end

section
open PySem PySem.W PyProof.Rows
namespace Mine
local macro_rules | `(tactic| walk_at "no goal") => `(tactic| skip)
local macro_rules | `(tactic| walk_at "no goal") => `(tactic| skip)
theorem freshJ2 : True ∧ True := by
  k_with_none
  w_top off
  first | (walk1; done) | exact ⟨trivial, trivial⟩
end Mine
end

/-! part J2 -/
section
open PySem PySem.W PySem.W.X PyProof.Rows
set_option maxRecDepth 100000
set_option maxHeartbeats 4000000
namespace Mine
local macro_rules | `(tactic| omega) => `(tactic| lia)
local macro_rules | `(tactic| walk_at $s:str) => `(tactic| k_extra $s)
local macro_rules | `(tactic| k_types) => `(tactic| first | with_reducible assumption | (apply And.right; first | with_reducible assumption | (apply And.right; first | with_reducible assumption | (apply And.right; first | with_reducible assumption | (apply And.right; first | with_reducible assumption | (apply And.right; first | with_reducible assumption | (apply And.right; first | with_reducible assumption | (apply And.right; first | with_reducible assumption | (apply And.right; first | with_reducible assumption | (apply And.right; first | with_reducible assumption | (apply And.right; first | with_reducible assumption | (apply And.right; first | with_reducible assumption | (apply And.right; first | with_reducible assumption | (apply And.right; first | with_reducible assumption | (apply And.right; with_reducible assumption)))))))))))))))
local macro_rules | `(tactic| k_ne) => `(tactic| (refine neN ?_; (try dsimp only); first | (first | k_types | (apply And.left; k_types)) | (refine Ne.symm ?_; (first | k_types | (apply And.left; k_types))) | (refine Nat.ne_of_lt ?_; (first | k_types | (apply And.left; k_types))) | (refine Nat.ne_of_gt ?_; (first | k_types | (apply And.left; k_types)))))
local macro_rules | `(tactic| k_room) => `(tactic| ((try simp only [depth_under_make, depth_under_kw, depth_in1, depth_deeper, depth_caller]); first | decide | (have : recursionLimit = 1000 := by decide
                                                                                                                                                                 omega)))
theorem m_ne {x y : Str} {v : Option Value} {m : Str → Option Value} {r : Option Value} (h : (x == y) = false) (q : m x = r) : (fun z => if z = y then v else m z) x = r := by
  have : x ≠ y := fun e => by subst e; simp at h
  dsimp only
  rw [if_neg this]; exact q
section
variable {w : World} {A A₀ : Around} {base h₀ : Heap} {outer : List Env} {env : Env} {E : Value → Shared → Prop} {s : Shared} {L : Addr} {m mg mb : Str → Option Value} {pp : Program} {loose : List Str} {mean : ExcName → Option Value} {Q : Value → Shared → Prop}
theorem reduce_K {l : Addr} {lo : Obj} {n : Nat} {bt : List (Bool × Tok)} {bs : List Bool} {b0 : Bool} {t : Tok} (hh : A.handled = none) (hl : s.heap.get? l = some lo) (hc : lo.cls = .type "list") (hdt : lo.data = .seq (bt.map fun p => Value.str (nmOf p.1) p.2).toArray n) (hlL : l ≠ L) (hl0 : h₀.get? l = none) (hbs : bs.length + bt.length ≤ 20)
    (B : Below A₀ base outer h₀) (F : Fr h₀ L s.heap m) (KX : (hd.heap_1 w.params).In h₀) (T : Top pp loose mean mg mb h₀)
    (hA : A.frames = some (env :: outer)) (hf : env.frame = some L) (hke : env.scope.kind = .function) (hroom : A.depth < 700)
    (h : ∀ h' tk tv, Stays s.heap h' → Q (.str (pth (bs ++ [b0] ++ bt.map (·.1))) tv) { s with heap := h', toks := tk }) :
    wpAny (model PySem.Challenge.pw_qw0044_01 w) A (PySem.call (.ref 121) [.ref 215, .ref l, .str (pth (bs ++ [b0])) t]) Q E s := by
  k_with_none
  k_with "execs cons" => ((k_here; refine PySem.wpAny_execs_cons ?_; (try k_fold)))
  k_with "eval Call" => ((k_here; k_fold; walk1))
  k_with "eval Call Attribute" => ((k_here; k_fold; walk1))
  k_with "eval BinOp" => ((k_here; k_fold; walk1))
  k_with "eval Compare" => ((k_here; k_fold; walk1))
  k_with "eval Subscript" => ((k_here; k_fold; walk1))
  k_with "isTrue Compare" => ((k_here; k_fold; walk1))
  k_with "call builtin:iter" => ((k_here; (with_reducible show wpAny _ _ (call (Value.builtin "iter") [Value.ref _]) _ _ _); k_dflt (refine' iter_K (lo := _) ?F ?N ?m ?c ?d ?_; (case F => k_asm); (case N => k_asm); (case m => k_mem); (case c => assumption); (case d => assumption)); intro I'9k h'9k F'9k N'9k l19k))
  k_with "compareOp Is" => ((k_here; (with_reducible show wpAny _ _ (compareOp CmpOp.Is (Value.str _ _) (Value.ref _)) _ _ _); refine wpAny_is_other (by rfl) (by intro x9k; cases x9k) ?_))
  k_with "compareOp Is str ref" => ((k_here; refine wpAny_is_other (by rfl) (by intro x9k; cases x9k) ?_))
  k_with "exec For Name Name cons nil" => ((k_here; (rename Fr _ _ _ _ => lF'9k); (with_unfolding_all refine' For_turns lF'9k ?_; k_whole)))
  k_with "eval Name" => ((k_here; k_dflt (refine' ld ?k1 ?k2 ?_; (case k1 => k_asm); (case k2 => first | assumption | exact m_ne (by decide) (by assumption)); k_whole)))
  k_with "call ref" => ((k_here; (with_reducible show wpAny _ _ (PySem.call (Value.ref 215) _) _ _ _); k_dflt (refine' join_K ?hh ?ha ?hb ?hae ?la ?lb ?B ?F ?X ?T ?hA ?hf ?hke ?hr ?_; (case hh => assumption); (case ha => exact pth_ends _ _); (case hb => exact nm_starts _); (case hae => (rw [pth_len, List.length_append, List.length_cons]; omega)); (case la => (rw [pth_len, List.length_append, List.length_cons, List.length_nil]; omega)); (case lb => (rw [nm_len]; decide)); (case B => k_asm); (case F => k_asm); (case X => k_asm); (case T => k_asm); (case hA => first | exact rfl | exact Around.frames_deeper (by assumption)); (case hf => exact rfl); (case hke => exact rfl); (case hr => (simp only [depth_deeper]; omega))); intro h'9k tk'9k tv'9k kS'9k; (rename Fr _ _ _ _ => kF99k); (rename News _ _ _ _ => kN99k); have F'9k := Stays.fr kS'9k kF99k; have N'9k := Stays.news kS'9k kN99k; clear kS'9k kF99k kN99k; (try dsimp only)))
  revert KX
  have h0 : PySem.Challenge.rw_qw0044_01.Holds ∨ True := .inr trivial
  revert h0
  k_fill
  intro h0 KX
  clear h0
  have N : News h₀ L s.heap [(l, lo)] := fun p hp => by rw [List.mem_singleton.mp hp]; exact ⟨hl, hlL, hl0⟩
  refine wpAny_call ?_
  refine' enter_PN B F KX N T hA hf hke ?k6 ?k7 ?k8 ?k9 ?kB ?_ ?c2 ?c3 ?c4 ?c5
  case k6 => k_is
  case k7 => k_is
  case k8 => k_room
  case k9 => exact binds_K (by k_in) rfl (by k_is) rfl rfl rfl
  case kB => exact locs rfl
  case c2 => rfl
  case c3 => rfl
  case c4 => rfl
  case c5 => decide
  intro g' L' h' kb FG' F' N' B' X' T'
  (try dsimp only)
  (try k_lift B')
  k_steps
  rename Fr _ _ _ _ => F1
  rename News _ _ _ _ => N1
  have hI := N1 _ (.head _)
  refine iter_iterTurns (ax := l) (lo := lo) (news := [(l, lo)]) hh F1 (News.drop1 N1) (.head _) hc hdt ⟨_, hI.1, rfl, rfl⟩ hI.2.1 hI.2.2 ?_ ?_
  · intro p hp
    rw [List.mem_singleton.mp hp]
    rename ∀ p ∈ [(l, lo)], _ => l2
    exact l2 _ (.head _)
  rw [List.map_map]
  refine fold_items (I := fun r m' n' => n' = [(l, lo)] ∧ ∃ bs' b' t', bs' ++ [b'] ++ r.map (·.1) = bs ++ [b0] ++ bt.map (·.1) ∧ bs'.length + r.length ≤ 20 ∧ m' (Str.ofString "function") = some (.ref 215) ∧ m' (Str.ofString "value") = some (.str (pth (bs' ++ [b'])) t')) (fun p : Bool × Tok => Value.str (nmOf p.1) p.2) ?done ?turn bt _ _ ⟨rfl, bs, b0, t, rfl, hbs, rfl, rfl⟩
  case done =>
    rintro m' n' h2 tk2 ⟨rfl, bs', b', t', e1, e2, e3, e4⟩ F2 N2
    dsimp only
    k_steps
    intro kS
    have e5 : bs' ++ [b'] = bs ++ [b0] ++ bt.map (·.1) := by rw [← e1]; simp
    rw [e5]
    exact h _ _ _ (kS.stays (fun p hp => by rw [List.mem_singleton.mp hp]; exact hl) fun p hp => (N2 p hp).1)
  case turn =>
    rintro a r m' n' h2 tk2 ⟨rfl, bs', b', t', e1, e2, e3, e4⟩ F2 o ho N2
    dsimp only [List.nil_append, List.cons_append] at N2
    rw [List.length_cons] at e2
    k_steps
    rename Fr _ _ _ _ => F3
    rename News _ _ _ _ => N3
    rw [pth_snoc] at F3
    refine UnrEndW.intro F3 N3 [(l, lo)] (by k_subL) (by k_subL) ⟨⟨.inr (by rw [hc, ho]; simp), trivial⟩, trivial⟩ ⟨by k_subL, rfl, bs' ++ [b'], a.1, _, (by rw [← e1]; simp), (by rw [List.length_append, List.length_cons, List.length_nil]; omega), (by dsimp only; rw [if_neg (by decide), if_neg (by decide)]; exact e3), rfl⟩
end
end Mine
end

section
open PySem PySem.W PyProof.Rows
namespace Mine
local macro_rules | `(tactic| walk_at "no goal") => `(tactic| skip)
local macro_rules | `(tactic| walk_at "no goal") => `(tactic| skip)
theorem freshLP : True ∧ True := by
  k_with_none
  w_top off
  first | (walk1; done) | exact ⟨trivial, trivial⟩
end Mine
end

/-! part LP -/
section
open PySem PySem.W PySem.W.X PyProof.Rows
set_option maxRecDepth 100000
set_option maxHeartbeats 4000000
namespace Mine
local macro_rules | `(tactic| omega) => `(tactic| lia)
local macro_rules | `(tactic| walk_at $s:str) => `(tactic| k_extra $s)
local macro_rules | `(tactic| k_types) => `(tactic| first | with_reducible assumption | (apply And.right; first | with_reducible assumption | (apply And.right; first | with_reducible assumption | (apply And.right; first | with_reducible assumption | (apply And.right; first | with_reducible assumption | (apply And.right; first | with_reducible assumption | (apply And.right; first | with_reducible assumption | (apply And.right; first | with_reducible assumption | (apply And.right; first | with_reducible assumption | (apply And.right; first | with_reducible assumption | (apply And.right; first | with_reducible assumption | (apply And.right; first | with_reducible assumption | (apply And.right; first | with_reducible assumption | (apply And.right; first | with_reducible assumption | (apply And.right; with_reducible assumption)))))))))))))))
local macro_rules | `(tactic| k_ne) => `(tactic| (refine neN ?_; (try dsimp only); first | (first | k_types | (apply And.left; k_types)) | (refine Ne.symm ?_; (first | k_types | (apply And.left; k_types))) | (refine Nat.ne_of_lt ?_; (first | k_types | (apply And.left; k_types))) | (refine Nat.ne_of_gt ?_; (first | k_types | (apply And.left; k_types)))))
local macro_rules | `(tactic| k_room) => `(tactic| ((try simp only [depth_under_make, depth_under_kw, depth_in1, depth_deeper, depth_caller]); first | decide | (have : recursionLimit = 1000 := by decide
                                                                                                                                                                 omega)))
section
variable {w : World} {A A₀ : Around} {base h₀ : Heap} {outer : List Env} {env : Env} {E : Value → Shared → Prop} {s : Shared} {L : Addr} {m mg mb : Str → Option Value} {pp : Program} {loose : List Str} {mean : ExcName → Option Value} {Q : Value → Shared → Prop}
theorem place_K {l : Addr} {n : Nat} {vs : List Value} {ds : List Int} {k : Int} {t : Tok} (hl : s.heap.get? l = some (listOf vs.toArray n)) (hi : IntsAre vs ds) (hd1 : ∀ d ∈ ds, 1 ≤ d ∧ d ≤ 4) (hk0 : 0 ≤ k) (hk1 : k < ds.length) (hds : ds.length ≤ 20) (hlL : l ≠ L) (hl0 : h₀.get? l = none)
    (B : Below callerA base [] h₀) (F : Fr h₀ L s.heap m) (KX : (hd.heap_1 w.params).In h₀) (T : Top pp loose mean mg mb h₀)
    (hf : env.frame = some L) (hke : env.scope.kind = .function)
    (h : ∀ h' tk v, Stays s.heap h' → PlaceIs (placeOf ds k.toNat) v → Q v { s with heap := h', toks := tk }) :
    wpAny (model PySem.Challenge.pw_qw0044_01 w) (callerA.deeper env) (PySem.call (.ref 225) [.ref l, .int k t]) Q E s := by
  k_with_none
  k_with "execs cons" => ((k_here; refine PySem.wpAny_execs_cons ?_; (try k_fold)))
  k_with "eval Call" => ((k_here; k_fold; walk1))
  k_with "eval Call Attribute" => ((k_here; k_fold; walk1))
  k_with "eval BinOp" => ((k_here; k_fold; walk1))
  k_with "eval Compare" => ((k_here; k_fold; walk1))
  k_with "eval Subscript" => ((k_here; k_fold; walk1))
  k_with "isTrue Compare" => ((k_here; k_fold; walk1))
  k_with "eval ListComp" => ((k_here; refine Halt.of ?_))
  k_with "newTuple" => ((k_here; k_dflt (refine' newTuple_P ?F ?N ?z ?_; (case F => k_asm); (case N => k_asm); (case z => exact Nat.le_of_ble_eq_true rfl)); intro F'9k N'9k))
  k_with "compareOp Lt ref ref" => ((k_here; k_dflt (refine' tuple_lt_K ?hu ?N ?a ?b ?_; (case hu => k_units); (case N => k_asm); (case a => k_mem); (case b => k_mem)); intro b'9k hb'9k))
  k_with "call ref" => ((k_here; (with_reducible show wpAny _ _ (PySem.call (Value.ref 121) _) _ _ _); refine Halt.of ?_))
  revert KX
  have h0 : PySem.Challenge.rw_qw0044_01.Holds ∨ True := .inr trivial
  revert h0
  k_fill
  intro h0 KX
  clear h0
  have N : News h₀ L s.heap [(l, listOf vs.toArray n)] := fun p hp => by rw [List.mem_singleton.mp hp]; exact ⟨hl, hlL, hl0⟩
  refine wpAny_call ?_
  refine' enter_PC B F KX N T rfl hf hke ?k6 ?k7 ?k8 ?k9 ?kB ?kD ?_ ?c2 ?c3 ?c4
  case k6 => k_is
  case k7 => k_is
  case k8 => k_room
  case k9 => exact BindsTo.of_eq rfl
  case kB => exact rfl
  case kD => decide +kernel
  case c2 => rfl
  case c3 => rfl
  case c4 => rfl
  intro g' L' h' tk' cells' kb FG' F' N' Y' B' X' T' l1
  (try k_lt l1)
  k_cells Y'
  (try simp only [List.cons_append, List.nil_append] at N')
  (try dsimp only)
  (try k_lift B')
  have hlen := hi.length
  have hd2 : ∀ a : Int, 0 ≤ a → a < ds.length → 1 ≤ ds.getD a.toNat 0 ∧ ds.getD a.toNat 0 ≤ 4 := fun a h1 h2 => by
    have : a.toNat < ds.length := by omega
    rw [List.getD_eq_getElem?_getD, List.getElem?_eq_getElem this]
    exact hd1 _ (List.getElem_mem this)
  k_steps
  rename Fr _ _ _ _ => F1
  rename News _ _ _ _ => N1
  have hL1 : ∀ C, (∀ b o, h'.get? b = some o → b < C) → L' < C := fun C hC => by
    refine Classical.byContradiction fun hn9 => ?_
    obtain ⟨oL, _, _, e, _⟩ := F1.ns
    refine hn9 ?_
    clear hn9
    exact hC _ _ e
  refine Halt.go ?_
  refine comp_rng (n := ds.length) (pz := befB ds k.toNat) (G := fun a y => ∃ t, y = .int (shr (ds.getD a 0)) t) rfl rfl (by decide) rfl (by decide) rfl (by omega) ?hit ?htests ?helt ?hQ (fun _ => rfl)
  case hit =>
    intro R hR
    k_steps
    exact hR _ _ _ _ _ _ (by assumption) (by assumption)
  case htests =>
    intro C a t s₂ m₂ E' hC ha hn hm hk
    have F2 : Fr g' C s₂.heap m₂ := ⟨hn, fun b o e => hk _ _ (F1.keep b o e), Nat.le_trans F1.above (Nat.le_of_lt (hL1 C hC))⟩
    have N2 : News g' C s₂.heap _ := fun p hp => ⟨hk _ _ (N1 p hp).1, Nat.ne_of_lt (hC _ _ (N1 p hp).1), (N1 p hp).2.2⟩
    refine one_test ?_
    k_steps
    · rename _ = decide _ => hb
      rw [hb, Int.toNat_natCast]
      unfold befB
      refine decide_eq_decide.mpr ?_
      omega
    · refine ⟨_, _, rfl, fun b o e => ?_⟩
      exact Heap.get?_push_of_some _ (Heap.get?_push_of_some _ e)
  case helt =>
    intro C a t s₂ m₂ E' hC ha hp hn hm hk
    have F2 : Fr g' C s₂.heap m₂ := ⟨hn, fun b o e => hk _ _ (F1.keep b o e), Nat.le_trans F1.above (Nat.le_of_lt (hL1 C hC))⟩
    have N2 : News g' C s₂.heap _ := fun p hp => ⟨hk _ _ (N1 p hp).1, Nat.ne_of_lt (hC _ _ (N1 p hp).1), (N1 p hp).2.2⟩
    obtain ⟨hda1, hda2⟩ := hd2 (a : Int) (by omega) (by omega)
    unfold shr
    k_steps
    exact ⟨_, _, rfl, fun _ _ e => e⟩
  case hQ =>
    intro D ys h2 tk2 hD hl2 hpl hpr hst
    have F3 := hst.fr F1
    have N3 := hst.news N1
    have hys := ints_paired hpr
    clear hpr
    obtain ⟨hdk1, hdk2⟩ := hd2 k hk0 hk1
    k_steps
    · intro kS
      rename News h₀ L _ _ => N9
      refine h _ _ _ (kS.stays (fun p hp => (N p hp).1) fun p hp => (N9 p (by
        rw [List.mem_singleton.mp hp]; k_mem)).1) ?_
      unfold placeOf
      rw [if_pos (by assumption)]
      rfl
    · rename Fr _ _ _ _ => F4
      rename News _ _ _ _ => N4
      rename Heap => h4
      have hL4 : ∀ C, (∀ b o, h4.get? b = some o → b < C) → L' < C := fun C hC => by
        refine Classical.byContradiction fun hn9 => ?_
        obtain ⟨oL, _, _, e, _⟩ := F4.ns
        refine hn9 ?_
        clear hn9
        exact hC _ _ e
      refine Halt.go ?_
      refine comp_rng (n := (ds.getD k.toNat 0).toNat) (pz := fun _ => true) (G := fun a y => ∃ t, y = .str (nmOf (bitOf (ahead ds k.toNat) a)) t) rfl rfl (by decide) rfl (by decide) rfl (by omega) ?hit ?htests ?helt ?hQ (fun _ => rfl)
      case hit =>
        intro R hR
        have e5 : (((ds.getD k.toNat 0).toNat : Nat) : Int) = ds.getD k.toNat 0 := by omega
        rw [e5] at hR
        k_steps
        exact hR _ _ _ _ _ _ (by assumption) (by assumption)
      case htests => intros; exact no_test
      case helt =>
        intro C a t s₂ m₂ E' hC ha hp hn hm hk
        have F5 : Fr g' C s₂.heap m₂ := ⟨hn, fun b o e => hk _ _ (F4.keep b o e), Nat.le_trans F4.above (Nat.le_of_lt (hL4 C hC))⟩
        have N5 : News g' C s₂.heap _ := fun p hp => ⟨hk _ _ (N4 p hp).1, Nat.ne_of_lt (hC _ _ (N4 p hp).1), (N4 p hp).2.2⟩
        have ha3 : (a : Int) ≤ 3 := by omega
        k_steps
        case refine_2.refine_2 => exact ⟨_, _, rfl, fun _ _ e => e⟩
        case refine_2.refine_1.refine_2 =>
          refine congrArg (fun x => Value.str x _) ?_
          rw [item_ab, show (3 - (a : Int)).toNat = 3 - a by omega]
          rfl
      case hQ =>
        intro D5 ys5 h5 tk5 hD5 hl5 hpl5 hpr5 hst5
        have F6 := hst5.fr F4
        have N6 := hst5.news N4
        obtain ⟨bt, rfl, ebt⟩ := strs_paired hpr5
        k_steps
        refine Halt.go ?_
        rename ¬ _ => hno
        refine Classical.byContradiction fun hn9 => ?_
        obtain ⟨lo, hlo, hlc, nn, hld⟩ := hl5
        refine hn9 ?_
        clear hn9
        rw [pth_one, show pth [true] = pth ([] ++ [true]) from rfl]
        rw [List.filter_eq_self.mpr fun _ _ => rfl] at ebt
        have hbl : bt.length ≤ 4 := by
          have := congrArg List.length ebt
          rw [List.length_map, List.length_map, List.length_range] at this
          omega
        have hD0 : g'.get? D5 = none := by
          cases e : g'.get? D5 with
          | none => rfl
          | some o => rw [F4.keep _ _ e] at hD5; cases hD5
        have hDL : D5 ≠ L' := fun e => by
          refine Classical.byContradiction fun hn9 => ?_
          obtain ⟨oL, _, _, e2, _⟩ := F4.ns
          refine hn9 ?_
          clear hn9
          rw [← e, hD5] at e2; cases e2
        refine reduce_K rfl hlo hlc hld hDL hD0 (by show 0 + bt.length ≤ 20; omega) B' F6 X' T' rfl rfl rfl (by k_room) fun h7 tk7 tv7 kS7 => ?_
        have N7 := kS7.news N6
        refine leaveK_ (kS7.fr F6) N7 fun fa na kk => h _ _ _ (kk.stays (fun p hp => (N p hp).1) fun p hp => (N7 p (by
          rw [List.mem_singleton.mp hp]; k_mem)).1) ?_
        unfold placeOf
        rw [if_neg (by assumption)]
        refine ⟨tv7, ?_⟩
        rw [ebt]
        rfl
end
end Mine
end

section
open PySem PySem.W PyProof.Rows
namespace Mine
local macro_rules | `(tactic| walk_at "no goal") => `(tactic| skip)
theorem freshG1 : True ∧ True := by
  k_with_none
  w_top off
  first | (walk1; done) | exact ⟨trivial, trivial⟩
end Mine
end

/-! part G1 -/
section
open PySem PySem.W PySem.W.X PyProof.Rows PySem.Calls
set_option maxRecDepth 100000
set_option maxHeartbeats 4000000
namespace Mine
/-- an object of the list is turned -/
inductive Turn (a : Addr) (o o' : Obj) : List (Addr × Obj) → List (Addr × Obj) → Prop
  | head {l} : Turn a o o' ((a, o) :: l) ((a, o') :: l)
  | tail {p l l'} : Turn a o o' l l' → Turn a o o' (p :: l) (p :: l')
theorem Turn.keys {a : Addr} {o o' : Obj} {l l' : List (Addr × Obj)} (h : Turn a o o' l l') : l'.map (·.1) = l.map (·.1) := by
  induction h with
  | head => rfl
  | tail _ ih => simp [ih]
theorem Turn.mem {a : Addr} {o o' : Obj} {l l' : List (Addr × Obj)} (h : Turn a o o' l l') : (a, o) ∈ l := by
  induction h with
  | head => exact .head _
  | tail _ ih => exact .tail _ ih
theorem Turn.of_mem {a : Addr} {o o' : Obj} {l l' : List (Addr × Obj)} (h : Turn a o o' l l') (hn : (l.map (·.1)).Nodup) : ∀ p ∈ l', p = (a, o') ∨ (p ∈ l ∧ p.1 ≠ a) := by
  induction h with
  | @head l =>
    intro p hp
    rw [List.map_cons, List.nodup_cons] at hn
    rcases List.mem_cons.mp hp with rfl | hp
    · exact .inl rfl
    · exact .inr ⟨.tail _ hp, fun e => hn.1 (List.mem_map.mpr ⟨p, hp, e⟩)⟩
  | @tail q l l' t ih =>
    intro p hp
    rw [List.map_cons, List.nodup_cons] at hn
    rcases List.mem_cons.mp hp with rfl | hp
    · exact .inr ⟨.head _, fun e => hn.1 (List.mem_map.mpr ⟨_, t.mem, e.symm⟩)⟩
    · rcases ih hn.2 p hp with e | ⟨a, b⟩
      · exact .inl e
      · exact .inr ⟨.tail _ a, b⟩
/-- the ledger of a stretch: what is kept, and what it made or turned -/
structure Mm (P : Addr → Obj → Prop) (h : Heap) (news : List (Addr × Obj)) : Prop where
  keep : ∀ b o, P b o → h.get? b = some o
  nw : ∀ p ∈ news, h.get? p.1 = some p.2
  ap : ∀ p ∈ news, ∀ o, ¬ P p.1 o
  nd : (news.map (·.1)).Nodup
section
variable {P : Addr → Obj → Prop} {h h' : Heap} {news news' nw : List (Addr × Obj)}
theorem Mm.alloc (D : Mm P h news) {o : Obj} (hf : o.isFreed = false) : Mm P (h.push o) ((h.objs.size, o) :: news) := by
  refine ⟨fun b o' e => Heap.get?_push_of_some _ (D.keep b o' e), fun p hp => ?_, fun p hp o' e => ?_, ?_⟩
  · rcases List.mem_cons.mp hp with rfl | hp
    · exact Heap.get?_push_size _ hf
    · exact Heap.get?_push_of_some _ (D.nw p hp)
  · rcases List.mem_cons.mp hp with rfl | hp
    · exact absurd (Heap.lt_size (D.keep _ _ e)) (Nat.lt_irrefl _)
    · exact D.ap p hp o' e
  · rw [List.map_cons, List.nodup_cons]
    refine ⟨fun hm => ?_, D.nd⟩
    obtain ⟨p, hp, e⟩ := List.mem_map.mp hm
    have := Heap.lt_size (D.nw p hp)
    rw [e] at this; exact Nat.lt_irrefl _ this
theorem Mm.update (D : Mm P h news) {a : Addr} {o o' : Obj} {f : Obj → Obj} (e : f o = o') (hu : Turn a o o' news news') (hf : o'.isFreed = false) : Mm P (h.update a f) news' := by
  have hs : Heap.SameBut a h (h.update a f) := Heap.SameBut.update ..
  have ha := D.nw _ hu.mem
  have ge : (h.update a f).get? a = some o' := by
    have : (h.update a f).get? a = some (f o) := by first | exact Heap.get?_update_self f ha (by rw [e]; exact hf) | exact Heap.get?_update_self _ ha (by rw [e]; exact hf)
    rw [this, e]
  refine ⟨fun b ob eb => (hs.2 b fun q => D.ap _ hu.mem ob (by subst q; exact eb)).trans (D.keep b ob eb), fun p hp => ?_, fun p hp ob eb => ?_, hu.keys ▸ D.nd⟩
  · rcases hu.of_mem D.nd p hp with rfl | ⟨hm, ne⟩
    · exact ge
    · exact (hs.2 _ ne).trans (D.nw p hm)
  · rcases hu.of_mem D.nd p hp with rfl | ⟨hm, _⟩
    · exact D.ap _ hu.mem ob eb
    · exact D.ap p hm ob eb
theorem Mm.trans (D : Mm P h news) (D' : Mem h h' [] nw) : Mm P h' (nw ++ news) := by
  have k : ∀ b o, h.get? b = some o → h'.get? b = some o := fun b o e => D'.keep b o e (by simp [away])
  refine ⟨fun b o e => k _ _ (D.keep b o e), fun p hp => ?_, fun p hp o e => ?_, ?_⟩
  · rcases List.mem_append.mp hp with hp | hp
    · exact (D'.nw p hp).1
    · exact k _ _ (D.nw p hp)
  · rcases List.mem_append.mp hp with hp | hp
    · have := (D'.nw p hp).2
      rw [D.keep _ _ e] at this; cases this
    · exact D.ap p hp o e
  · rw [List.map_append]
    refine List.nodup_append.mpr ⟨D'.ord.imp fun hlt e => by subst e; exact Nat.lt_irrefl _ hlt, D.nd, fun x hx y hy e => ?_⟩
    obtain ⟨p, hp, rfl⟩ := List.mem_map.mp hx
    obtain ⟨q, hq, rfl⟩ := List.mem_map.mp hy
    have e1 := (D'.nw p hp).2
    rw [e, D.nw q hq] at e1; cases e1
end
section
variable {α : Type} {M : Model} {A : Around} {Q : α → Shared → Prop} {E : Value → Shared → Prop} {P : Addr → Obj → Prop} {h : Heap} {news news' : List (Addr × Obj)} {g : Array GenState} {dr : Drawn} {t : Nat} {os : OsState}
theorem h_new {a : Addr} {o : Obj} {p : Option Value} {k : Obj → Sem α} (D : Mm P h news) (hm : (a, o) ∈ news) (q : wpAny M A (k o) Q E ⟨h, g, dr, t, os⟩) : wpAny M A (.load a p k) Q E ⟨h, g, dr, t, os⟩ :=
  nd_load (D.nw _ hm) q
theorem h_old {a : Addr} {o : Obj} {p : Option Value} {k : Obj → Sem α} (D : Mm P h news) (e : P a o) (q : wpAny M A (k o) Q E ⟨h, g, dr, t, os⟩) : wpAny M A (.load a p k) Q E ⟨h, g, dr, t, os⟩ :=
  nd_load (D.keep _ _ e) q
theorem h_alloc {o : Obj} {k : Addr → Sem α} (D : Mm P h news) (hf : o.isFreed = false) (q : ∀ a h', Mm P h' ((a, o) :: news) → wpAny M A (k a) Q E ⟨h', g, dr, t, os⟩) : wpAny M A (.alloc o k) Q E ⟨h, g, dr, t, os⟩ :=
  nd_alloc (q _ _ (D.alloc hf))
theorem h_update {a : Addr} {o o' : Obj} {p : Option Value} {f : Obj → Obj} {k : Unit → Sem α} (D : Mm P h news) (e : f o = o') (hu : Turn a o o' news news') (hf : o'.isFreed = false) (q : ∀ h', Mm P h' news' → wpAny M A (k ()) Q E ⟨h', g, dr, t, os⟩) : wpAny M A (.update a p f k) Q E ⟨h, g, dr, t, os⟩ :=
  wpAny_bind (m := updatePart a p f) (f := k) (wpAny_updatePart (D.nw _ hu.mem) (q _ (D.update e hu hf)))
theorem h_at {q : Pos} {k : Unit → Sem α} (q2 : wpAny M A (k ()) Q E ⟨h, g, dr, t, os⟩) : wpAny M A (.at q k) Q E ⟨h, g, dr, t, os⟩ := fun Γ _ hΓ => q2 Γ q hΓ
theorem h_fresh {k : Tok → Sem α} (q : wpAny M A (k t) Q E ⟨h, g, dr, t + 1, os⟩) : wpAny M A (.fresh k) Q E ⟨h, g, dr, t, os⟩ := nd_fresh q
theorem inOf {K : Frag} (KP : ∀ b o, K.lookup b = some o → P b o) (D : Mm P h news) : K.In h := fun b o e => D.keep b o (KP b o e)
theorem h_call {hd : Option Value} {c : Code} {gg : Bool} {l : List Value} {k : Result → Sem α} {s : Shared}
    (x : wpAny M A (.call c hd gg l Sem.pure) (fun r s' => wpAny M A (k r) Q E s') E s) : wpAny M A (.call c hd gg l k) Q E s :=
  wpAny_bind (m := .call c hd gg l Sem.pure) (f := k) x
theorem Mm.get {a : Addr} {o : Obj} (D : Mm P h news) (hm : (a, o) ∈ news) : h.get? a = some o := D.nw _ hm
theorem h_notSys {α : Type} {M : Model} {A : Around} {Q : α → Shared → Prop} {E : Value → Shared → Prop} {s : Shared} {x y : Sem α} {a : Addr} {o o1 : Obj} (D : Mm P h news) (hm : (a, o) ∈ news) (h1 : P 1 o1) (q : wpAny M A y Q E s) : wpAny M A (if (a == sysModules) = true then x else y) Q E s := by
  rw [if_neg (by
    intro e
    have e' : a = 1 := by simpa [sysModules] using e
    exact D.ap _ hm o1 (by rw [e']; exact h1))]
  exact q
theorem h_ml_nil {β : Type} {f : α → Sem β} {acc : List β} {Q : List β → Shared → Prop} {s : Shared} (q : Q acc.reverse s) : wpAny M A (List.mapM.loop f [] acc) Q E s := wpAny_pure q
theorem h_free {β : Type} {f : Str → Sem β} {acc : List β} {Q : List β → Shared → Prop} {s : Shared} {scope : Scope} {l : List Str} (e : scope.freeNames = l) (q : wpAny M A (List.mapM.loop f l acc) Q E s) : wpAny M A (List.mapM.loop f scope.freeNames acc) Q E s := by rw [e]; exact q
theorem h_ml_cons {β : Type} {f : α → Sem β} {a : α} {as : List α} {acc : List β} {Q : List β → Shared → Prop} {s : Shared} (q : wpAny M A (f a) (fun b s' => wpAny M A (List.mapM.loop f as (b :: acc)) Q E s') E s) : wpAny M A (List.mapM.loop f (a :: as) acc) Q E s := wpAny_bind q
theorem h_for_nil {β : Type} {f : α → β → Sem (ForInStep β)} {b : β} {Q : β → Shared → Prop} {s : Shared} (q : Q b s) : wpAny M A (forIn ([] : List α) b f) Q E s := by rw [List.forIn_nil]; exact wpAny_pure q
theorem h_for_cons {β : Type} {f : α → β → Sem (ForInStep β)} {a : α} {as : List α} {b : β} {Q : β → Shared → Prop} {s : Shared} (q : wpAny M A (f a b) (fun r s' => wpAny M A (match r with | .done b => pure b | .yield b => forIn as b f) Q E s') E s) : wpAny M A (forIn (a :: as) b f) Q E s := by rw [List.forIn_cons]; exact wpAny_bind q
theorem h_nsSet {prog : Program} {w : World} {A : Around} {E : Value → Shared → Prop} {g : Array GenState} {dr : Drawn} {t : Nat} {os : OsState} {ns : Addr} {es es' : List DictEntry} {n n' : Nat} {name : Str} {v : Value} {Q : Unit → Shared → Prop} (D : Mm P h news) (hm : (ns, dictOf es n) ∈ news) (hk : (getL name es).isSome = true)
    (e : (putL name (PyData.keyHash w.params name) (.str name t) v es, putN name es n) = (es', n')) (u : Turn ns (dictOf es n) (dictOf es' n') news news') (q : ∀ h', Mm P h' news' → Q () ⟨h', g, dr, t + 1, os⟩) : wpAny (model prog w) A (nsSet ns name v) Q E ⟨h, g, dr, t, os⟩ := by
  have c : aRefKeyMayBeTheName name es.toArray = false := by
    rw [aRefKeyMayBeTheName_at]
    unfold getL at hk
    cases hf : es.find? (·.key.isStr name) with
    | some e =>
      have : es.any (·.key.isStr name) = true := List.any_eq_true.mpr ⟨e, List.mem_of_find?_eq_some hf, by simpa using List.find?_some hf⟩
      simp [this]
    | none =>
      rw [hf] at hk
      cases hr : es.any (·.refKey) with
      | true => rw [hr] at hk; cases hk
      | false => simp [hr]
  obtain ⟨e1, e2⟩ := Prod.mk.inj e
  unfold nsSet
  refine wpAny_bind (wpAny_bind (wpAny_askSetting (wpAny_pure (wpAny_bind (wpAny_mkText (wpAny_bind (wpAny_loadPart (D.nw _ hm) ?_)))))))
  show wpAny _ _ (if aRefKeyMayBeTheName name es.toArray = true then _ else updatePart ns _ _) _ _ _
  rw [c, if_neg Bool.false_ne_true]
  exact wpAny_updatePart (D.nw _ hm) (q _ (D.update (by
    show Obj.putName name (PyData.keyHash w.params name) (.str name t) v (dictOf es n) = _
    rw [putName_dict, e1, e2]) u rfl))
theorem h_tab {α : Type} {M : Model} {A : Around} {Q : α → Shared → Prop} {E : Value → Shared → Prop} {g : Array GenState} {dr : Drawn} {t : Nat} {os : OsState} {a : Addr} {ps ps' : Array Value} {p : Option Value} {f : Array Value → Array Value} {k : Unit → Sem α} (D : Mm P h news) (hm : (a, tabObj ps) ∈ news) (e : f ps = ps') (u : Turn a (tabObj ps) (tabObj ps') news news')
    (q : ∀ h', Mm P h' news' → wpAny M A (k ()) Q E ⟨h', g, dr, t, os⟩) : wpAny M A (.update a p (Obj.mapFields f) k) Q E ⟨h, g, dr, t, os⟩ :=
  h_update D (by subst e; rfl) u rfl q
def NoLim (P : Addr → Obj → Prop) : Prop := ∀ h news, Mm P h news → h.NoLimit
theorem NoLim.at (x : NoLim P) (D : Mm P h news) : h.NoLimit := x _ _ D
/-- an address of the list is not one that is kept -/
theorem Mm.ne {a b : Addr} {o ob : Obj} (D : Mm P h news) (hm : (a, o) ∈ news) (hb : P b ob) : a ≠ b := fun e => D.ap _ hm ob (by subst e; exact hb)
end
end Mine
end

section
open PySem PySem.W PyProof.Rows
namespace Mine
local macro_rules | `(tactic| walk_at "no goal") => `(tactic| skip)
theorem freshG2 : True ∧ True := by
  k_with_none
  w_top off
  first | (walk1; done) | exact ⟨trivial, trivial⟩
end Mine
end

/-! part G2 -/
section
open PySem PySem.W PySem.W.X PyProof.Rows PySem.Calls
set_option maxRecDepth 100000
set_option maxHeartbeats 4000000
namespace Mine
section
variable {prog : Program} {w : World} {A : Around} {E : Value → Shared → Prop} {s : Shared} {gg : Bool} {l : List Value} {QR : Result → Shared → Prop}
abbrev bfObj (c id : String) (v : Value) : Obj := ⟨.type c, none, .fields #[.builtin id, v], #[]⟩
theorem fin1r {o : Obj} {h' : Heap} {q : Addr} (fin : ∀ q h', Mem s.heap h' [] [(q, o)] → QR (.ok (.ret (.ref q))) { s with heap := h' }) (D : Mem s.heap h' [] [(q, o)]) : QR (.ok (.ret (.ref q))) { s with heap := h' } := fin q h' D
local macro_rules | `(tactic| x_close) => `(tactic| exact fin1r (by assumption) (by assumption))
theorem prepget_x {t : Tok} (fin : ∀ q h', Mem s.heap h' [] [(q, bfObj "builtin_function_or_method" "type.__prepare__" (.type "type"))] → QR (.ok (.ret (.ref q))) { s with heap := h' }) :
    wpAny (model prog w) A (.call (.call (.builtin "type.__getattribute__") ⟨[.type "type", .str (Str.ofString "__prepare__") t], []⟩) none gg l Sem.pure) QR E s := by
  x_run
theorem prep_x {q b : Addr} {t : Tok} (hq : s.heap.get? q = some ⟨.type "builtin_function_or_method", none, .fields #[.builtin "type.__prepare__", .type "type"], #[]⟩)
    (fin : ∀ q h', Mem s.heap h' [] [(q, ⟨.type "dict", none, .dict #[] 0, #[]⟩)] → QR (.ok (.ret (.ref q))) { s with heap := h' }) :
    wpAny (model prog w) A (.call (.call (.ref q) ⟨[.str (Str.ofString "K") t, .ref b], []⟩) none gg l Sem.pure) QR E s := by
  x_run
theorem collect_x {sl : Addr} {u : Tok} (hq : s.heap.get? sl = some ⟨.type "list", none, .seq #[.str (Str.ofString "obj") u] 0, #[]⟩)
    (fin : ∀ q h', Mem s.heap h' [] [(q, ⟨.type "list", none, .seq #[.str (Str.ofString "obj") u] 1, #[]⟩)] → QR (.ok (.ret (.ref q))) { s with heap := h' }) :
    wpAny (model prog w) A (.call (.builtin "proto.collect" ⟨[.ref sl], []⟩) none gg l Sem.pure) QR E s := by
  x_run
end
end Mine
end

section
open PySem PySem.W PyProof.Rows
namespace Mine
local macro_rules | `(tactic| walk_at "no goal") => `(tactic| skip)
theorem freshG2b : True ∧ True := by
  k_with_none
  w_top off
  first | (walk1; done) | exact ⟨trivial, trivial⟩
end Mine
end

/-! part G2b -/
section
open PySem PySem.W PySem.W.X PyProof.Rows PySem.Calls
set_option maxRecDepth 100000
set_option maxHeartbeats 4000000
namespace Mine
section
variable {prog : Program} {w : World} {A : Around} {E : Value → Shared → Prop} {s : Shared} {gg : Bool} {l : List Value} {QR : Result → Shared → Prop}
abbrev kCls (nm ql : Str) (K ns : Addr) (bs : List Value) (hd hDel : Bool) (sn : List Str) (ab : Bool) (sub : List Value) (col : Option (Int × Int)) : ClassData := { name := nm, bases := bs, mro := [.ref K, .type "object"], ns, qualname := ql }
local macro_rules | `(tactic| x_close) => `(tactic| exact fin1r (by assumption) (by assumption))
theorem super_x {K : Addr} {cd : ClassData} {sl : Array (Option Value)} (hm : cd.mro = [.ref K, .type "object"]) (hq : s.heap.get? K = some ⟨.type "type", none, .cls cd, sl⟩)
    (fin : ∀ q h', Mem s.heap h' [] [(q, ⟨.type "super", none, .fields #[.ref K, .ref K, .ref K], #[]⟩)] → QR (.ok (.ret (.ref q))) { s with heap := h' }) :
    wpAny (model prog w) A (.call (.call (.type "super") ⟨[.ref K, .ref K], []⟩) none gg l Sem.pure) QR E s := by
  obtain ⟨nm, bs, mro, ns, ql, x1, x2, x3, x4, x5, x6⟩ := cd
  cases hm
  x_run
end
end Mine
end

section
open PySem PySem.W PyProof.Rows
namespace Mine
local macro_rules | `(tactic| walk_at "no goal") => `(tactic| skip)
theorem freshG2c : True ∧ True := by
  k_with_none
  w_top off
  first | (walk1; done) | exact ⟨trivial, trivial⟩
end Mine
end

/-! part G2c -/
section
open PySem PySem.W PySem.W.X PyProof.Rows PySem.Calls
set_option maxRecDepth 100000
set_option maxHeartbeats 4000000
namespace Mine
section
variable {prog : Program} {w : World} {A : Around} {E : Value → Shared → Prop} {h : Heap} {g : Array GenState} {dr : Drawn} {t : Nat} {os : OsState} {so C : Addr} {cd : ClassData} {sl : Array (Option Value)}
theorem own_initsub : ∀ {Q : Option Value → Shared → Prop} {s : Shared}, Q (some (.builtin "object.__init_subclass__")) s → wpAny (model prog w) A (classOwn (.type "object") (Str.ofString "__init_subclass__")) Q E s := by
  intro Q s q
  have e : classOwn (.type "object") (Str.ofString "__init_subclass__") = pure (some (.builtin "object.__init_subclass__")) := by kernel_rfl
  exact wpAny_of_eq e q
theorem gi_type : typeOf (.builtin "object.__init_subclass__") = pure (.type "classmethod_descriptor") := by kernel_rfl
theorem gi_get : typeLookup (.type "classmethod_descriptor") "__get__" = pure (some (.builtin "classmethod_descriptor.__get__")) := by rw [typeLookup_type, builtinLookup_eq_fast]; kernel_rfl
theorem super_ga2 {tk : Tok} {Q : Fin → Shared → Prop} {mc : Str → Option Value}
    (hso : h.get? so = some { cls := .type "super", dict := none, data := .fields #[.ref C, .ref C, .ref C], slots := #[] }) (hC : h.get? C = some ⟨.type "type", none, .cls cd, sl⟩) (hm : cd.mro = [.ref C, .type "object"]) (hno : Looks (model prog w) h (opaqueClassAbove (.ref C)) none)
    (hq : wpAny (model prog w) A (call (.builtin "classmethod_descriptor.__get__") [.builtin "object.__init_subclass__", .none, .ref C]) (fun v s' => Q (.done (.ret v)) s') E ⟨h, g, dr, t, os⟩) :
    wpAny (model prog w) A (Builtin.«super.__getattribute__» ⟨[.ref so, .str (Str.ofString "__init_subclass__") tk], []⟩) Q E ⟨h, g, dr, t, os⟩ := by
  have hdt : ({ cls := .type "super", dict := none, data := .fields #[.ref C, .ref C, .ref C], slots := #[] } : Obj).data = .fields #[.ref C, .ref C, .ref C] := rfl
  have f0 : (#[.ref C, .ref C, .ref C] : Array Value)[0]? = some (.ref C) := rfl
  have f1 : (#[.ref C, .ref C, .ref C] : Array Value)[1]? = some (.ref C) := rfl
  have f2 : (#[.ref C, .ref C, .ref C] : Array Value)[2]? = some (.ref C) := rfl
  have hmr : Looks (model prog w) h (mroOf (.ref C)) cd.mro := ((Looks.ld (part := none) hC).andThen .now).andThen .now
  have hne : (Value.ref C == Value.ref C) = true := by simp
  have hl : ((cd.mro.dropWhile (· != .ref C)).drop 1) = [.type "object"] := by rw [hm, List.dropWhile_cons, if_neg (by simp)]; rfl
  unfold Builtin.«super.__getattribute__»
  repeat (first
    | (with_reducible refine wpAny_field hso hdt f0 ?_) | (with_reducible refine wpAny_field hso hdt f1 ?_) | (with_reducible refine wpAny_field hso hdt f2 ?_)
    | (with_reducible refine ks_wpAny_notOpaque hno ?_)
    | (with_reducible refine Looks.at hmr ?_; rw [hl])
    | (with_reducible refine own_initsub ?_)
    | (with_reducible refine wpAny_of_eq gi_type ?_)
    | (with_reducible refine wpAny_of_eq gi_get ?_)
    | (with_reducible refine wpAny_mono hq (fun v s' hv => ?_) fun _ _ z => z)
    | (simp only [hne, Bool.or_false, Bool.false_eq_true, if_false, if_true])
    | (refine h_for_cons ?_) | (refine h_for_nil ?_)
    | wp_step
    | dsimp only)
  all_goals first | exact hv
end
end Mine
end

section
open PySem PySem.W PyProof.Rows
namespace Mine
local macro_rules | `(tactic| walk_at "no goal") => `(tactic| skip)
theorem freshG2d : True ∧ True := by
  k_with_none
  w_top off
  first | (walk1; done) | exact ⟨trivial, trivial⟩
end Mine
end

/-! part G2d -/
section
open PySem PySem.W PySem.W.X PyProof.Rows PySem.Calls
set_option maxRecDepth 100000
set_option maxHeartbeats 4000000
namespace Mine
theorem is_sig : (Manifest.signature? "object.__init_subclass__").isSome = true := by decide +kernel
theorem is_chk (v : Value) (h : (Manifest.signature? "object.__init_subclass__").isSome = true) : Bind.checkArgs "object.__init_subclass__" { (Manifest.signature? "object.__init_subclass__").get h with full := "cmp_to_key.<locals>.K" ++ "." ++ Bind.lastOf "object.__init_subclass__" } ⟨[v], []⟩ = pure () := by kernel_rfl
abbrev KQ : Str := Str.ofString "cmp_to_key.<locals>.K"
theorem kq_str : KQ.toString = "cmp_to_key.<locals>.K" := by decide +kernel
theorem is_plain : plainId "object.__init_subclass__" = true := by decide +kernel
theorem is_entry : entryFor table "object.__init_subclass__" = some Builtin.«object.__init_subclass__» := entryFor_of_tree (by kernel_rfl)
theorem sub_mod : isSubtype (.type "type") (.type "module") = pure false := by rw [isSubtype_type]; kernel_rfl
section
variable {prog : Program} {w : World} {A : Around} {E : Value → Shared → Prop} {s : Shared} {K : Addr} {cd : ClassData} {sl : Array (Option Value)}
theorem bound_is {Q : Unit → Shared → Prop} (hqn : cd.qualname = KQ) (hK : s.heap.get? K = some ⟨.type "type", none, .cls cd, sl⟩) (h : Q () s) :
    wpAny (model prog w) A (checkBoundCall "object.__init_subclass__" ⟨[.ref K], []⟩) Q E s := by
  have hchk := is_chk (.ref K) is_sig
  have hqs : cd.qualname.toString = "cmp_to_key.<locals>.K" := by rw [hqn]; exact kq_str
  obtain ⟨sig, hsig⟩ : ∃ sig, Manifest.signature? "object.__init_subclass__" = some sig := Option.isSome_iff_exists.mp is_sig
  simp only [hsig, Option.get_some] at hchk
  have hkind : builtinKind "object.__init_subclass__" = some .classMethod := by decide +kernel
  have hva : Manifest.varargsMethods.contains "object.__init_subclass__" = false := by decide +kernel
  have l3 : Looks (model prog w) s.heap (typeOf (.ref K)) (.type "type") := (Looks.ld hK).andThen .now
  have l1 : Looks (model prog w) s.heap (isInstance (.ref K) (.type "module")) false := by
    intro A Q E s' k q
    unfold isInstance
    refine wpAny_bind (l3 A _ E s' k ?_)
    exact wpAny_of_eq sub_mod q
  have l2 : Looks (model prog w) s.heap (isType (.ref K)) true := (Looks.ld hK).andThen .now
  have l4 : Looks (model prog w) s.heap (classData K) cd := (Looks.ld hK).andThen .now
  obtain ⟨hh, g, dr, tk, os⟩ := s
  unfold checkBoundCall
  rw [hsig, hkind]
  dsimp only
  rw [if_neg (by decide)]
  simp only [hva]
  repeat (first
    | (with_reducible refine Looks.at l1 ?_) | (with_reducible refine Looks.at l2 ?_) | (with_reducible refine Looks.at l3 ?_) | (with_reducible refine Looks.at l4 ?_)
    | (with_reducible refine wpAny_of_eq hchk ?_)
    | (rw [hqs])
    | wp_step
    | dsimp only
    | (simp only [Bool.or_self, Bool.false_eq_true, if_false, beq_self_eq_true, if_true]))
  all_goals exact h
theorem initsub_call {q : Addr} {R : Result → Shared → Prop} (hqn : cd.qualname = KQ) (hK : s.heap.get? K = some ⟨.type "type", none, .cls cd, sl⟩)
    (hq : s.heap.get? q = some (bfObj "builtin_function_or_method" "object.__init_subclass__" (.ref K))) (h : R (.ok (.ret .none)) s) :
    codeAny (model prog w) A (.call (.ref q) ⟨[], []⟩) R s := by
  refine codeAny_of_tree ?_
  show wpAny _ A.in1 (callAny (.ref q) ⟨[], []⟩) _ _ _
  unfold callAny
  refine wpAny_bind (wpAny_load hq ?_)
  dsimp only
  rw [if_pos (by decide)]
  show wpAny _ _ (if (Value.type "builtin_function_or_method" != .type "method") = true then (do checkBoundCall "object.__init_subclass__" ⟨[.ref K], []⟩; again (.builtin "object.__init_subclass__" ⟨[.ref K], []⟩)) else _) _ _ _
  rw [if_pos (by decide)]
  refine wpAny_bind (bound_is hqn hK (wpAny_pure ⟨plainId_quiet is_plain _, ?_⟩))
  refine codeAny_builtin is_entry ?_
  rw [Around.under_plainId is_plain]
  unfold Builtin.«object.__init_subclass__»
  obtain ⟨hh, g, dr, tk, os⟩ := s
  repeat (first | wp_step | dsimp only | (simp only [List.isEmpty_nil, Bool.not_true, Bool.false_eq_true, if_false]))
  all_goals first | exact h
end
section
variable {prog : Program} {w : World} {A : Around} {E : Value → Shared → Prop} {s : Shared} {Q : Value → Shared → Prop}
theorem fin1q {o : Obj} {h' : Heap} {q : Addr} (fin : ∀ q h', Mem s.heap h' [] [(q, o)] → Q (.ref q) { s with heap := h' }) (D : Mem s.heap h' [] [(q, o)]) : Q (.ref q) { s with heap := h' } := fin q h' D
local macro_rules | `(tactic| x_close) => `(tactic| exact fin1q (by assumption) (by assumption))
theorem getis_q {K : Addr} {cd : ClassData} {sl : Array (Option Value)} (hm : cd.mro = [.ref K, .type "object"]) (hq : s.heap.get? K = some ⟨.type "type", none, .cls cd, sl⟩)
    (fin : ∀ q h', Mem s.heap h' [] [(q, bfObj "builtin_function_or_method" "object.__init_subclass__" (.ref K))] → Q (.ref q) { s with heap := h' }) :
    wpAny (model prog w) A (PySem.call (.builtin "classmethod_descriptor.__get__") [.builtin "object.__init_subclass__", .none, .ref K]) Q E s := by
  obtain ⟨nm, bs, mro, ns, ql, x1, x2, x3, x4, x5, x6⟩ := cd
  cases hm
  x_run
end
section
variable {prog : Program} {w : World} {A : Around} {E : Value → Shared → Prop} {h : Heap} {g : Array GenState} {dr : Drawn} {t : Nat} {os : OsState} {so C : Addr} {cd : ClassData} {sl : Array (Option Value)} {P : Addr → Obj → Prop} {news : List (Addr × Obj)}
theorem super_getAttr {Q : Value → Shared → Prop} (D : Mm P h news)
    (hso : (so, (⟨.type "super", none, .fields #[.ref C, .ref C, .ref C], #[]⟩ : Obj)) ∈ news) (hC : (C, (⟨.type "type", none, .cls cd, sl⟩ : Obj)) ∈ news) (hm : cd.mro = [.ref C, .type "object"]) (hno : Looks (model prog w) h (opaqueClassAbove (.ref C)) none)
    (hq : ∀ q h' t', Mm P h' ((q, bfObj "builtin_function_or_method" "object.__init_subclass__" (.ref C)) :: news) → Q (.ref q) ⟨h', g, dr, t', os⟩) :
    wpAny (model prog w) A (getAttr (.ref so) (Str.ofString "__init_subclass__")) Q E ⟨h, g, dr, t, os⟩ := by
  have hlk := PySem.F.ks_slot_super_ga.lookup
  have hS : ∀ t', (⟨h, g, dr, t', os⟩ : Shared).TypeIs (.ref so) "super" := fun _ => ⟨_, D.get hso, rfl⟩
  unfold getAttr getAttrBy
  refine wpAny_bind (wpAny_mkText (wpAny_holding (wpAny_bind (wpAny_typeOf (hS _) (wpAny_bind (wpAny_of_eq hlk ?_))))))
  show wpAny _ _ (getAttrByItsOwn (.ref so) (.str _ t) (.type "super") (.builtin "super.__getattribute__") true false) _ _ _
  unfold getAttrByItsOwn hookBefore callGetattribute boundAndCalled
  refine wpAny_bind (wpAny_of_eq (show (if onTheHeap (.type "super") then typeLookup (.type "super") "__getattr__" else pure none) = pure none from rfl) ?_)
  refine wpAny_bind (wpAny_attempt (wpAny_holding ?_))
  show wpAny _ _ (bindSpecial (.builtin "super.__getattribute__") (.ref so) >>= _) _ _ _
  refine wpAny_bind (wpAny_of_eq (PySem.F.ks_slot_super_ga.bind _) ?_)
  refine wpAny_mono (Q := fun v s' => ∃ q, v = .ref q ∧ Q (.ref q) s') (E := fun _ _ => False)
    (wpAny_call_entry PySem.F.ks_slot_super_ga (hS _) PySem.F.ks_entry_super_ga (super_ga2 (mc := fun _ => none) (D.get hso) (D.get hC) hm hno (wpAny_mono (Q := fun v s' => ∃ q, v = .ref q ∧ Q (.ref q) s') (E := fun _ _ => False) ?_ (fun v s' hv => ⟨v, rfl, hv⟩) fun _ _ z => z)) (PySem.F.ks_gaArgs_super _ _)) (fun v s' hv => ?_) fun _ _ z => z.elim
  · refine getis_q hm (D.get hC) fun q h' Dq => ?_
    exact ⟨q, rfl, hq q h' _ (Mm.trans D Dq)⟩
  · obtain ⟨q, rfl, hv⟩ := hv
    exact wpAny_pure hv
end
end Mine
end

section
open PySem PySem.W PyProof.Rows
namespace Mine
local macro_rules | `(tactic| walk_at "no goal") => `(tactic| skip)
theorem freshG3 : True ∧ True := by
  k_with_none
  w_top off
  first | (walk1; done) | exact ⟨trivial, trivial⟩
end Mine
end

/-! part G3 -/
section
open PySem PySem.W PySem.W.X PyProof.Rows PySem.Calls
set_option maxRecDepth 100000
set_option maxHeartbeats 4000000
namespace Mine
/-- a code object whose table lies at tb -/
def CodeO (oc : Obj) (tb : Addr) : Prop :=
  ∃ vs file tf flags tg inF text tt, oc.cls = .type "code" ∧ oc.data = .fields vs ∧ vs[11]? = some (.ref tb) ∧ vs.getD 11 .none = .ref tb ∧ vs.getD 18 .none = .str file tf ∧
    vs.getD 7 .none = .int flags tg ∧ vs.getD 9 .none = .bool inF ∧ vs.getD 10 .none = .int text tt
section
variable {P : Addr → Obj → Prop} {h h' : Heap} {news news' : List (Addr × Obj)}
theorem CodeO.hd {oc : Obj} {cc tb : Addr} (x : CodeO oc tb) (hc : h.get? cc = some oc) (hne : cc ≠ tb) : CodeHd h cc tb := by
  refine Classical.byContradiction fun hn9 => ?_
  obtain ⟨vs, file, tf, flags, tg, inF, text, tt, a, b, c, d, e, f, i, j⟩ := x
  refine hn9 ?_
  clear hn9
  exact ⟨oc, vs, file, tf, flags, tg, inF, text, tt, hc, a, b, c, d, e, f, i, j, hne⟩
theorem Mm.tab (D : Mm P h news) {tb : Addr} {o o' : Obj} (u : Turn tb o o' news news') (hx : Heap.ExtBut tb h h') (hP : h'.get? tb = some o') : Mm P h' news' := by
  refine ⟨fun b ob e => hx _ _ (fun q => D.ap _ u.mem ob (by subst q; exact e)) (D.keep b ob e), fun p hp => ?_, fun p hp ob e => ?_, u.keys ▸ D.nd⟩
  · rcases u.of_mem D.nd p hp with rfl | ⟨hm, ne⟩
    · exact hP
    · exact hx _ _ ne (D.nw p hm)
  · rcases u.of_mem D.nd p hp with rfl | ⟨hm, _⟩
    · exact D.ap _ u.mem ob e
    · exact D.ap p hm ob e
theorem Mm.add (D : Mm P h news) (D' : Mm P h' news') (hk : news'.map (·.1) = news.map (·.1)) {c : Addr} {oc : Obj} (hc : h'.get? c = some oc) (hge : h.objs.size ≤ c) : Mm P h' ((c, oc) :: news') := by
  refine ⟨D'.keep, fun p hp => ?_, fun p hp ob e => ?_, ?_⟩
  · rcases List.mem_cons.mp hp with rfl | hp
    · exact hc
    · exact D'.nw p hp
  · rcases List.mem_cons.mp hp with rfl | hp
    · exact absurd (Heap.lt_size (D.keep _ _ e)) (Nat.not_lt.mpr hge)
    · exact D'.ap p hp ob e
  · rw [List.map_cons, List.nodup_cons]
    refine ⟨fun hm => ?_, D'.nd⟩
    rw [hk] at hm
    obtain ⟨p, hp, e⟩ := List.mem_map.mp hm
    have := Heap.lt_size (D.nw p hp)
    rw [e] at this; exact absurd this (Nat.not_lt.mpr hge)
theorem Mm.sublist (D : Mm P h news) (s : news'.Sublist news) : Mm P h news' :=
  ⟨D.keep, fun p hp => D.nw p (s.subset hp), fun p hp => D.ap p (s.subset hp), D.nd.sublist (s.map _)⟩
theorem h_nsNew {prog : Program} {w : World} {A : Around} {E : Value → Shared → Prop} {g : Array GenState} {dr : Drawn} {t : Nat} {os : OsState} {ns : Addr} {es : List DictEntry} {n : Nat} {name : Str} {v : Value} {Q : Unit → Shared → Prop} (D : Mm P h news) (hrk : es.any (·.refKey) = false) (hne : es.any (·.key.isStr name) = false)
    (u : Turn ns (dictOf es n) (dictOf (es ++ [⟨PyData.keyHash w.params name, .str name t, v⟩]) (n + 1)) news news') (q : ∀ h', Mm P h' news' → Q () ⟨h', g, dr, t + 1, os⟩) : wpAny (model prog w) A (nsSet ns name v) Q E ⟨h, g, dr, t, os⟩ := by
  have hn : ∀ e ∈ es, e.key.isStr name = false := fun e he => by
    cases q : e.key.isStr name with
    | false => rfl
    | true => rw [List.any_eq_true.mpr ⟨e, he, q⟩] at hne; cases hne
  have hf : es.find? (fun x => x.key.isStr name) = none := List.find?_eq_none.mpr fun e he => by rw [hn e he]; decide
  refine h_nsSet D u.mem ?_ ?_ u q
  · unfold getL; rw [hf, hrk]; rfl
  · rw [putL_new hn]; unfold putN; rw [hne]; rfl
end
section
variable {w : World} {A : Around} {E : Value → Shared → Prop} {P : Addr → Obj → Prop} {h : Heap} {news : List (Addr × Obj)} {news' : Addr → List (Addr × Obj)} {news'' : Addr → Addr → Tok → List (Addr × Obj)} {g : Array GenState} {dr : Drawn} {t : Nat} {os : OsState} {mg mb : Str → Option Value} {pp : Program} {loose : List Str} {mean : ExcName → Option Value}
  {ns cc tb : Addr} {env : Env} {es : List DictEntry} {n : Nat} {ps : Array Value} {occ : Obj} {Q : Flow → Shared → Prop}
/-- what stands below the stretch -/
structure Stand (w : World) (pp : Program) (loose : List Str) (mean : ExcName → Option Value) (mg mb : Str → Option Value) (P : Addr → Obj → Prop) : Prop where
  top : ∀ h news, Mm P h news → Top pp loose mean mg mb h
  kb : ∀ b o, (Kbig w.params).lookup b = some o → P b o
  s1 : ∃ o, P 1 o
  g3 : ∃ o, P mainGlobals o
  bm : ∃ bm o, mg "__builtins__" = some (.ref bm) ∧ bm ≠ builtinsNs ∧ bm ≠ mainGlobals ∧ P bm o ∧ o.cls = .type "module" ∧ o.dict = some builtinsNs ∧ o.data = .plain
theorem store_cls {s : Shared} {name : Str} {v : Value} {o : Obj} {Q : Unit → Shared → Prop} (hkd : env.kindOf name = some .local) (hsc : env.scope.kind = .class) (hlo : env.locals = ns) (hs : s.heap.get? ns = some o) (hc : o.cls = .type "dict")
    (q : wpAny (model PySem.Challenge.pw_qw0044_01 w) A (nsSet ns name v) Q E s) : wpAny (model PySem.Challenge.pw_qw0044_01 w) A (storeName env name v) Q E s := by
  unfold storeName localSet
  simp only [hkd, hsc, hlo]
  rw [if_neg (show ¬ ((some NameKind.local == some NameKind.globalImplicit && env.blockKind != ScopeKind.function) = true) from Bool.false_ne_true)]
  show wpAny _ _ (if (ScopeKind.class == ScopeKind.class || ScopeKind.class == ScopeKind.module && ns != env.globals) = true then _ else _) _ _ _
  rw [if_pos (show ((ScopeKind.class == ScopeKind.class || ScopeKind.class == ScopeKind.module && ns != env.globals) = true) from rfl)]
  refine wpAny_bind (wpAny_load hs ?_)
  rw [hc, if_pos (by decide)]
  exact q
/-- makeFunction at a place that the table does not know yet; the new code object is one -/
theorem makeFn_cls {M : Model} {A : Around} {E : Value → Shared → Prop} {s : Shared} {name qual : Str} {params : Arguments} {body : List Stmt} {scope : Scope} {env : Env} {c P : Addr} {ps : Array Value} {pos : Pos} {firstLine : Nat} {mg : Str → Option Value}
    {clos : List (Str × Addr)} {Q : Value → Shared → Prop} (hcl : closureFor scope env = pure clos) (hgl : env.globals = mainGlobals) (hg : s.heap.Ns mainGlobals mg) (hcode : env.code = .ref c) (C : CodeHd s.heap c P) (hP : s.heap.get? P = some (tabObj ps)) (ht : TriplesOk ps.toList)
    (hnf : codeAmong pos ps.toList = none) (hgP : mainGlobals ≠ P) (hb : s.heap.BuiltinsAt mg P)
    (h : ∀ c' ctv doc h' tk, Heap.ExtBut P s.heap h' → s.heap.objs.size ≤ c' → h'.CodeRec (.ref c') qual → (∃ o, h'.get? c' = some o ∧ o.cls = .type "code") → h'.get? P = some (tabObj (ps ++ #[rawInt pos.line, rawInt pos.col, .ref c'])) →
      Q (.ref h'.objs.size) { s with heap := h'.push (fnMade name qual params body scope clos doc ((mg "__name__").getD .none) c' ctv), toks := tk }) :
    wpAny M A (makeFunction name qual params (.stmts body) scope env [] [] [] pos firstLine) Q E s := by
  refine Classical.byContradiction fun hn9 => ?_
  obtain ⟨bm, ob, q1, q2, _, q4, q5, q6, q7, q8⟩ := hb
  refine hn9 ?_
  clear hn9
  have cls : ∀ {h' : Heap} {c' : Addr}, (∃ P', s.heap.objs.size ≤ P' ∧ h'.IsCode c' P' #[] ∧ h'.TableAt c' P' #[]) → ∃ o, h'.get? c' = some o ∧ o.cls = .type "code" := fun ⟨_, _, _, ⟨o, _, a, b, _⟩, _⟩ => ⟨o, a, b⟩
  rw [makeFunction_eq]
  simp only [List.zip_nil_right, List.filterMap_nil, List.isEmpty_nil, if_true, pure_bind]
  unfold makeTail
  rw [hcl, hgl]
  refine wpAny_bind (wpAny_pure ?_)
  have up : ∀ (oT : Obj) b o, s.heap.get? b = some o → (s.heap.push oT).get? b = some o := fun _ b o e => Heap.get?_push_of_some _ e
  cases clos with
  | nil =>
    rw [if_pos List.isEmpty_nil]
    refine wpAny_bind (wpAny_pure (wpAny_bind (wpAny_functionCodeX hcode (C.code hP ht) (C.tab hP) hnf fun c' h' tk hx hge _ _ hrec htb hc => ?_)))
    have g' := hg.extBut hx hgP
    refine wpAny_bind (wpAny_builtinsFor g' q1 q2 (hx _ _ q4 q5) q6 q7 q8 ?_)
    refine wpAny_bind (wpAny_nsGet g' ?_)
    dsimp only
    cases hdoc : docOf body with
    | none => exact wpAny_bind (wpAny_pure (wpAny_newObj_type (h c' .none .none h' tk hx hge hrec (cls hc) htb.2) (by size_fits)))
    | some t => exact wpAny_bind (wpAny_mkText (wpAny_newObj_type (h c' .none _ h' _ hx hge hrec (cls hc) htb.2) (by size_fits)))
  | cons q r =>
    rw [if_neg (by simp)]
    refine wpAny_bind (wpAny_newTextTuple (wpAny_bind (wpAny_functionCodeX hcode ((C.keeps (up _)).code (up _ _ _ hP) ht) ((C.keeps (up _)).tab (up _ _ _ hP)) hnf fun c' h' tk hx hge _ _ hrec htb hc => ?_)))
    have g' := (hg.push _).extBut hx hgP
    have hx' : Heap.ExtBut P s.heap h' := fun b o hb e => hx b o hb (up _ _ _ e)
    have hsz : ∀ oT : Obj, s.heap.objs.size ≤ (s.heap.push oT).objs.size := fun oT => Nat.le_of_lt (by rw [Heap.size_push]; exact Nat.lt_succ_self _)
    have hc2 : ∃ P', s.heap.objs.size ≤ P' ∧ h'.IsCode c' P' #[] ∧ h'.TableAt c' P' #[] := let ⟨P', a, r⟩ := hc; ⟨P', Nat.le_trans (hsz _) a, r⟩
    refine wpAny_bind (wpAny_builtinsFor g' q1 q2 (hx' _ _ q4 q5) q6 q7 q8 ?_)
    refine wpAny_bind (wpAny_nsGet g' ?_)
    dsimp only
    cases hdoc : docOf body with
    | none => exact wpAny_bind (wpAny_pure (wpAny_newObj_type (h c' _ .none h' tk hx' (Nat.le_trans (hsz _) hge) hrec (cls hc2) htb.2) (by size_fits)))
    | some t => exact wpAny_bind (wpAny_mkText (wpAny_newObj_type (h c' _ _ h' _ hx' (Nat.le_trans (hsz _) hge) hrec (cls hc2) htb.2) (by size_fits)))
/-- a def in the class's body -/
theorem def_cls {psl : List Value} {name : Str} {params : Arguments} {body : List Stmt} {scope : Scope} {pos : Pos} {clos : List (Str × Addr)} (S : Stand w pp loose mean mg mb P) (D : Mm P h news) (hcc : (cc, occ) ∈ news) (hco : CodeO occ tb)
    (u1 : ∀ c' : Addr, Turn tb (tabObj psl.toArray) (tabObj (psl ++ [rawInt pos.line, rawInt pos.col, .ref c']).toArray) news (news' c')) (u2 : ∀ (c' f : Addr) tk, Turn ns (dictOf es n) (dictOf (es ++ [⟨PyData.keyHash w.params name, .str name tk, .ref f⟩]) (n + 1)) (news' c') (news'' c' f tk))
    (hrk : es.any (·.refKey) = false) (hnew : es.any (·.key.isStr name) = false) (ht : TriplesOk psl) (hnf : codeAmong pos psl = none)
    (hd0 : params.defaults = []) (hk0 : params.kw_defaults = []) (ha : annTrees params none env = []) (hcl : closureFor scope env = pure clos) (hgl : env.globals = mainGlobals) (hcode : env.code = .ref cc)
    (hkd : env.kindOf name = some .local) (hsc : env.scope.kind = .class) (hlo : env.locals = ns)
    (q : ∀ f c' oc' ctv doc pm tk tk' h', Mm P h' ((f, fnMade name (qualnameIn env name name) params body scope clos doc pm c' ctv) :: (c', oc') :: news'' c' f tk) → TriplesOk (psl ++ [rawInt pos.line, rawInt pos.col, .ref c']) → (∃ vs t, (oc'.data = .fields vs ∧ oc'.cls = .type "code") ∧ vs[1]? = some (.str (qualnameIn env name name) t)) → Q .next ⟨h', g, dr, tk', os⟩) :
    wpAny (model PySem.Challenge.pw_qw0044_01 w) A (exec (.FunctionDef name params body [] none [] scope none name pos) env) Q E ⟨h, g, dr, t, os⟩ := by
  have T := S.top _ _ D
  have hne : cc ≠ tb := fun e => by
    have e1 := D.get hcc
    rw [e, D.get (u1 0).mem] at e1
    refine Classical.byContradiction fun hn9 => ?_
    obtain ⟨vs, file, tf, flags, tg, inF, text, tt, a, _⟩ := hco
    refine hn9 ?_
    clear hn9
    rw [← Option.some.inj e1] at a; cases a
  obtain ⟨o3, h3⟩ := S.g3
  refine Classical.byContradiction fun hn9 => ?_
  obtain ⟨bm, ob, b1, b2, b3, b4, b5, b6, b7⟩ := S.bm
  refine hn9 ?_
  clear hn9
  have gne : mainGlobals ≠ tb := fun e => D.ap _ (u1 0).mem o3 (by subst e; exact h3)
  have bne : bm ≠ tb := fun e => D.ap _ (u1 0).mem ob (by subst e; exact b4)
  refine nestDef_K hd0 hk0 ha ?_
  refine makeFn_cls (mg := mg) hcl hgl T.g hcode (hco.hd (D.get hcc) hne) (D.get (u1 0).mem) ht hnf gne ⟨bm, ob, b1, b2, b3, bne, D.keep _ _ b4, b5, b6, b7⟩ fun c' ctv doc h1 tk hx hge hrec hcs htb => ?_
  refine Classical.byContradiction fun hn9 => ?_
  obtain ⟨c2, oc', vs, tq, e, hoc, hdata, hv⟩ := hrec
  refine hn9 ?_
  clear hn9
  cases e
  have hcd : oc'.cls = .type "code" := by
    obtain ⟨o9, g9, k9⟩ := hcs
    rw [hoc] at g9; cases g9; exact k9
  have D1 := D.tab (u1 c') hx (by rw [htb]; simp)
  have D2 := D.add D1 (u1 c').keys hoc hge
  have D3 := D2.alloc (o := fnMade name (qualnameIn env name name) params body scope clos doc ((mg "__name__").getD .none) c' ctv) rfl
  refine store_cls hkd hsc hlo (D3.get (.tail _ (.tail _ (u2 c' 0 tk).mem))) rfl ?_
  exact h_nsNew D3 hrk hnew (.tail (.tail (u2 c' _ tk))) fun h2 D4 => q _ _ _ _ _ _ _ _ _ D4 (TriplesOk_snoc _ _ _ _ ht) ⟨vs, tq, ⟨hdata, hcd⟩, hv⟩
end
end Mine
end

section
open PySem PySem.W PyProof.Rows
namespace Mine
local macro_rules | `(tactic| walk_at "no goal") => `(tactic| skip)
theorem freshG4 : True ∧ True := by
  k_with_none
  w_top off
  first | (walk1; done) | exact ⟨trivial, trivial⟩
end Mine
end

/-! part G4 -/
section
open PySem PySem.W PySem.W.X PyProof.Rows PySem.Calls
set_option maxRecDepth 100000
set_option maxHeartbeats 4000000
namespace Mine
local macro_rules | `(tactic| k_all) => `(tactic| first | apply Turn.head | (apply Turn.tail; k_all))
theorem lk_build {w : World} {h : Heap} (X : (Kbig w.params).In h) : Looks (model PySem.Challenge.pw_qw0044_01 w) h (nsGet builtinsNs "__build_class__") (some (.builtin "__build_class__")) := Looks.of_peek X (by kernel_rfl)
theorem lk_obj1 {w : World} {h : Heap} (X : (Kbig w.params).In h) : Looks (model PySem.Challenge.pw_qw0044_01 w) h (nsGet mainGlobals (Str.ofString "object")) none := Looks.of_peek X (by kernel_rfl)
theorem lk_obj2 {w : World} {h : Heap} (X : (Kbig w.params).In h) : Looks (model PySem.Challenge.pw_qw0044_01 w) h (nsGet builtinsNs (Str.ofString "object")) (some (.type "object")) := Looks.of_peek X (by kernel_rfl)
theorem lk_b {w : World} {h : Heap} (X : (Kbig w.params).In h) : Looks (model PySem.Challenge.pw_qw0044_01 w) h (nsGet mainGlobals "__builtins__") (some (.ref 4)) := Looks.of_peek X (by kernel_rfl)
abbrev o111 : Obj := ⟨.type "code", none, .fields #[.str (Str.ofString "cmp_to_key") 295, .str (Str.ofString "cmp_to_key") 296, .str (Str.ofString "/claim/cut.py") 297, .int 38 0, .int 1 0, .int 0 0, .int 0 0, .int 3 0, .ref 106, .bool true, .int 181 0, .ref 107, .none, .ref 108, .ref 109, .ref 110, .int 301 0, .int 38 0, .str (Str.ofString "/claim/cut.py") 302], #[]⟩
def LkName (w : World) (P : Addr → Obj → Prop) (v : Value) : Prop := ∀ h news, Mm P h news → Looks (model PySem.Challenge.pw_qw0044_01 w) h (nsGet mainGlobals "__name__") (some v)
theorem LkName.at {w : World} {A : Around} {E : Value → Shared → Prop} {P : Addr → Obj → Prop} {v : Value} {h : Heap} {news : List (Addr × Obj)} {g : Array GenState} {dr : Drawn} {t : Nat} {os : OsState} {Q : Option Value → Shared → Prop} (x : LkName w P v) (D : Mm P h news) (q : Q (some v) ⟨h, g, dr, t, os⟩) :
    wpAny (model PySem.Challenge.pw_qw0044_01 w) A (nsGet mainGlobals "__name__") Q E ⟨h, g, dr, t, os⟩ := (x _ _ D).at q
theorem lk_nm (P : Params) : ∃ t, nsIn (hd.heap_1 P) mainGlobals (Str.ofString "__name__") = some (some (.str (Str.ofString "law_qw0044_01") t)) := by
  have h : (nsIn (hd.heap_1 P) mainGlobals (Str.ofString "__name__")).map (fun o => o.map fun v => match v with | .str x _ => some x | _ => none) = some (some (some (Str.ofString "law_qw0044_01"))) := by kernel_rfl
  revert h
  cases nsIn (hd.heap_1 P) mainGlobals (Str.ofString "__name__") with
  | none => intro h; cases h
  | some o =>
    cases o with
    | none => intro h; cases h
    | some v => cases v with
      | str x t => intro h; exact ⟨t, by injection h with h; injection h with h; injection h with h; rw [h]⟩
      | _ => intro h; cases h

/-- the class statement in cmp_to_key, taken from the written part -/
def clsOf (o : Option Obj) : Stmt := match o with
  | some ⟨_, _, .func fd, _⟩ => (match fd.body with | .stmts (st :: _) => st | _ => .Pass default)
  | _ => .Pass default
def clsBody (st : Stmt) : List Stmt := match st with | .ClassDef _ _ _ body _ _ _ _ _ _ _ => body | _ => []
def clsScope (st : Stmt) : Scope := match st with | .ClassDef _ _ _ _ _ _ sc _ _ _ _ => sc | _ => default
def stName (st : Stmt) : Str := match st with | .FunctionDef n _ _ _ _ _ _ _ _ _ => n | _ => default
def stArgs (st : Stmt) : Arguments := match st with | .FunctionDef _ a _ _ _ _ _ _ _ _ => a | _ => default
def stBody (st : Stmt) : List Stmt := match st with | .FunctionDef _ _ b _ _ _ _ _ _ _ => b | _ => []
def stScope (st : Stmt) : Scope := match st with | .FunctionDef _ _ _ _ _ _ sc _ _ _ => sc | _ => default
noncomputable def clsSt (w : World) : Stmt := clsOf ((hd.heap_1 w.params).lookup 112)
noncomputable def defSt (w : World) (i : Nat) : Stmt := (clsBody (clsSt w)).getD i (.Pass default)
noncomputable def kEnv (w : World) (ns fr cc cl : Addr) (ql : Str) : Env := { scope := clsScope (clsSt w), locals := ns, globals := mainGlobals, cells := [(Str.ofString "mycmp", cl)], qual := ql, code := .ref cc, frame := some fr, builtins := builtinsNs }
noncomputable def qlO (w : World) (i : Nat) (ns fr cc cl : Addr) (ql : Str) : Str := qualnameIn (kEnv w ns fr cc cl ql) (stName (defSt w i)) (stName (defSt w i))
noncomputable def fnO (w : World) (i : Nat) (clos : List (Str × Addr)) (ns fr cc cl : Addr) (ql : Str) (d p : Value) (c' : Addr) (ct : Value) : Obj := fnMade (stName (defSt w i)) (qlO w i ns fr cc cl ql) (stArgs (defSt w i)) (stBody (defSt w i)) (stScope (defSt w i)) clos d p c' ct
abbrev clsEs (w : World) (hh1 hh2 hh3 : Int) (t1 t2 t3 : Tok) (v2 v3 : Value) (u1 u2 u3 w2 w3 w4 w5 w6 w7 : Tok) (sl f2 f3 f4 f5 f6 f7 : Addr) : List DictEntry := [⟨hh1, .str (Str.ofString "__module__") t1, .str (Str.ofString "cpy313.functools") u1⟩, ⟨hh2, .str (Str.ofString "__qualname__") t2, v2⟩, ⟨hh3, .str (Str.ofString "__firstlineno__") t3, v3⟩, ⟨PyData.keyHash w.params (Str.ofString "__slots__"), .str (Str.ofString "__slots__") u2, .ref sl⟩, ⟨PyData.keyHash w.params (Str.ofString "__init__"), .str (Str.ofString "__init__") w2, .ref f2⟩, ⟨PyData.keyHash w.params (Str.ofString "__lt__"), .str (Str.ofString "__lt__") w3, .ref f3⟩, ⟨PyData.keyHash w.params (Str.ofString "__gt__"), .str (Str.ofString "__gt__") w4, .ref f4⟩, ⟨PyData.keyHash w.params (Str.ofString "__eq__"), .str (Str.ofString "__eq__") w5, .ref f5⟩, ⟨PyData.keyHash w.params (Str.ofString "__le__"), .str (Str.ofString "__le__") w6, .ref f6⟩, ⟨PyData.keyHash w.params (Str.ofString "__ge__"), .str (Str.ofString "__ge__") w7, .ref f7⟩, ⟨PyData.keyHash w.params (Str.ofString "__hash__"), .str (Str.ofString "__hash__") u3, .none⟩]
section
variable {w : World} {A : Around} {E : Value → Shared → Prop} {P : Addr → Obj → Prop} {h : Heap} {news rest : List (Addr × Obj)} {g : Array GenState} {dr : Drawn} {t : Nat} {os : OsState} {mg mb : Str → Option Value} {pp : Program} {loose : List Str} {mean : ExcName → Option Value}
  {ns cc tb fr cl : Addr} {ql : Str} {es : List DictEntry} {n : Nat} {ps : Array Value} {occ : Obj} {R : Result → Shared → Prop}
theorem body_K {v1 v2 v3 : Value} {t1 t2 t3 : Tok} {hh1 hh2 hh3 : Int} (S : Stand w pp loose mean mg mb P) (hco : CodeO occ tb)
    (D : Mm P h ((ns, dictOf [⟨hh1, .str (Str.ofString "__module__") t1, v1⟩, ⟨hh2, .str (Str.ofString "__qualname__") t2, v2⟩, ⟨hh3, .str (Str.ofString "__firstlineno__") t3, v3⟩] 3) :: (tb, tabObj #[]) :: (cc, occ) :: rest))
    (fin : ∀ f2 f3 f4 f5 f6 f7 c2 c3 c4 c5 c6 c7 sl oc2 oc3 oc4 oc5 oc6 oc7 fd4 fd5 fd6 fd7 d2 d3 p2 p3 ct2 ct3 u1 u2 u3 u4 w2 w3 w4 w5 w6 w7 tbl h' tk, Mm P h' ((f7, ⟨.type "function", none, .func fd7, #[]⟩) :: (c7, oc7) :: (f6, ⟨.type "function", none, .func fd6, #[]⟩) :: (c6, oc6) :: (f5, ⟨.type "function", none, .func fd5, #[]⟩) :: (c5, oc5) :: (f4, ⟨.type "function", none, .func fd4, #[]⟩) :: (c4, oc4) :: (f3, fnO w 3 [(Str.ofString "mycmp", cl)] ns fr cc cl ql d3 p3 c3 ct3) :: (c3, oc3) :: (f2, fnO w 2 [] ns fr cc cl ql d2 p2 c2 ct2) :: (c2, oc2) :: (sl, ⟨.type "list", none, .seq #[.str (Str.ofString "obj") u4] 0, #[]⟩) :: (ns, dictOf (clsEs w hh1 hh2 hh3 t1 t2 t3 v2 v3 u1 u2 u3 w2 w3 w4 w5 w6 w7 sl f2 f3 f4 f5 f6 f7) 11) :: (tb, tabObj tbl) :: (cc, occ) :: rest) →
      (∃ vs t, (oc2.data = .fields vs ∧ oc2.cls = .type "code") ∧ vs[1]? = some (.str (qlO w 2 ns fr cc cl ql) t)) → (∃ vs t, (oc3.data = .fields vs ∧ oc3.cls = .type "code") ∧ vs[1]? = some (.str (qlO w 3 ns fr cc cl ql) t)) → R (.ok .next) ⟨h', g, dr, tk, os⟩) :
    codeAny (model PySem.Challenge.pw_qw0044_01 w) A (.body (clsBody (clsSt w)) (kEnv w ns fr cc cl ql)) R ⟨h, g, dr, t, os⟩ := by
  refine x_code ?_
  repeat (first | ((with_reducible show wpAny _ _ (nsGet _ _) _ _ _); k_dflt (first | refine (lk_build (inOf (by assumption) (by assumption))).at ?_ | refine (lk_obj1 (inOf (by assumption) (by assumption))).at ?_ | refine (lk_obj2 (inOf (by assumption) (by assumption))).at ?_ | refine (lk_b (inOf (by assumption) (by assumption))).at ?_ | refine (LkName.at (by assumption) (by assumption)) ?_)) | with_reducible refine wpAny_bind ?_ | with_reducible refine nd_bind ?_ | with_reducible refine wpAny_holding ?_ | with_reducible refine wpAny_onRaise ?_ | with_reducible refine wpAny_standAt ?_ | with_reducible refine wpAny_rule ?_ | with_reducible refine wpAny_pure ?_ | (with_reducible refine wpAny_enterFrame (NoLim.at (by assumption) (by assumption)) (by k_room) ?_) | ((with_reducible show wpAny _ _ (Sem.load _ _ _) _ _ _); k_dflt (refine' h_old ?D ?e ?_); (case D => assumption); (case e => assumption); (try dsimp only)) | (with_reducible refine h_alloc (by assumption) rfl ?_; intro a' h' D') | ((with_reducible show wpAny _ _ (Sem.load _ _ _) _ _ _); k_dflt (refine' h_new ?D ?m ?_); (case D => assumption); (case m => k_mem); (try dsimp only)) | ((with_reducible show wpAny _ _ (exec (Stmt.FunctionDef _ _ _ _ _ _ _ _ _ _) _) _ _ _); refine' def_cls ?S ?D ?cc ?co ?u1 ?u2 ?rk ?nw ?tr ?nf rfl rfl rfl rfl rfl ?hcode ?kd rfl rfl ?_; (case S => assumption); (case D => assumption); (case hcode => rfl); (case cc => k_mem); (case co => first | assumption | exact ⟨_, _, _, _, _, _, _, _, rfl, rfl, rfl, rfl, rfl, rfl, rfl, rfl⟩); (case u1 => intro; k_all); (case u2 => intros; k_all); (case rk => rfl); (case nw => rfl); (case tr => first | trivial | assumption); (case nf => rfl); (case kd => rfl); intro f' c' oc' ctv' doc' pm' tk' tk'' h' D' tr' ho'; dsimp only [List.cons_append, List.nil_append] at D' tr') | ((with_reducible show wpAny _ _ (Sem.call (Code.body _ _) _ _ _ _) _ _ _); refine x_call (x_code ?_) ?nb; (case nb => (intro h; cases h))) | ((with_reducible show wpAny _ _ (nsSet _ _ _) _ _ _); k_dflt (refine' h_nsSet ?D ?m ?k ?e ?u ?_); (case D => assumption); (case m => k_mem); (case k => rfl); (case e => k_put); (case u => k_all); intro h' D') | ((with_reducible show wpAny _ _ (Sem.update _ _ (Obj.mapFields _) _) _ _ _); k_dflt (refine' h_tab ?D ?m ?e ?u ?_); (case D => assumption); (case m => k_mem); (case e => exact if_neg Bool.false_ne_true); (case u => k_all); intro h' D') | ((with_reducible show wpAny _ _ (Sem.update _ _ _ _) _ _ _); k_dflt (refine' h_update ?D ?e ?u ?f ?_); (case D => assumption); (case u => k_all); (case e => rfl); (case f => rfl); intro h' D') | ((with_reducible show wpAny _ _ (ite _ _ _) _ _ _); k_dflt (refine' h_notSys ?D ?m ?p ?_); (case D => assumption); (case p => assumption); (case m => k_mem)) | ((with_reducible show wpAny _ _ (List.mapM.loop _ _ _) _ _ _); k_dflt (first | refine h_free (l := [Str.ofString "mycmp"]) (by kernel_rfl) ?_ | refine h_free (l := []) (by kernel_rfl) ?_ | refine h_ml_nil ?_ | refine h_ml_cons ?_)) | ((with_reducible show wpAny _ _ (forIn _ _ _) _ _ _); k_dflt (first | refine h_for_nil ?_ | refine h_for_cons ?_)) | with_reducible refine h_fresh ?_ | with_reducible refine h_at ?_ | ((with_reducible show wpAny _ _ (Sem.call _ _ _ _ _) _ _ _); k_dflt (first | (refine h_call (prepget_x ?_); intro q' h' Dq'; have D' := Mm.trans (by assumption) Dq'; dsimp only [List.cons_append, List.nil_append] at D') | (refine' h_call (prep_x ?q ?_); (case q => refine' Mm.get ?D ?m; (case D => assumption); (case m => k_mem)); intro q' h' Dq'; have D' := Mm.trans (by assumption) Dq'; dsimp only [List.cons_append, List.nil_append] at D'))) | k_node)
  exact fin _ _ _ _ _ _ _ _ _ _ _ _ _ _ _ _ _ _ _ _ _ _ _ _ _ _ _ _ _ _ _ _ _ _ _ _ _ _ _ _ _ _ (by assumption) (by assumption) (by assumption)
end
end Mine
end

section
open PySem PySem.W PyProof.Rows
namespace Mine
local macro_rules | `(tactic| walk_at "no goal") => `(tactic| skip)
theorem freshG5 : True ∧ True := by
  k_with_none
  w_top off
  first | (walk1; done) | exact ⟨trivial, trivial⟩
end Mine
end

/-! part G5 -/
section
open PySem PySem.W PySem.W.X PyProof.Rows PySem.Calls
set_option maxRecDepth 100000
set_option maxHeartbeats 4000000
namespace Mine
theorem tc_can : ((Manifest.find? "type").bind (·.mro.findSome? fun t => (Manifest.find? t).bind fun b => if b.noNew then some true else if b.attrs.any (·.1 == "__new__") then some false else none)).getD false = false := by decide +kernel
theorem tc_mro : mroOf (.type "type") = pure [.type "type", .type "object"] := by rw [mroOf_type]; kernel_rfl
theorem tc_lookn : typeLookup (.type "type") "__new__" = pure (some (.builtin "type.__new__")) := by rw [typeLookup_type, builtinLookup_eq_fast]; kernel_rfl
theorem tc_made : Bind.madeBy (.type "type") = pure (some "type.__new__") := madeBy_type tc_mro tc_lookn (by decide +kernel)
theorem tc_chk (a b c : Value) : checkTypeCall "type" ⟨[a, b, c], []⟩ = pure () := by kernel_rfl
theorem tn_entry : entryFor table "type.__new__" = some Builtin.«type.__new__» := entryFor_of_tree (by kernel_rfl)
theorem tn_chk (a b c : Value) : checkBuiltinCall "type.__new__" ⟨[.type "type", a, b, c], []⟩ = pure () := by kernel_rfl
theorem tn_plain : plainId "type.__new__" = true := by decide +kernel
theorem ti_slot : Slot "type" "__init__" "type.__init__" := .of (owner := "type") (n := "__init__") (by rw [typeLookup_type, builtinLookup_eq_fast]; kernel_rfl) (by decide +kernel) (by decide +kernel) (by decide +kernel)
  (by first | exact .inl (by decide +kernel) | exact .inr (by decide +kernel)) (by rw [isSubtype_type]; kernel_rfl)
theorem ti_entry : entryFor table "type.__init__" = some Builtin.«type.__init__» := entryFor_of_tree (by kernel_rfl)
theorem ti_args (o a b c : Value) : argsOk "type.__init__" ⟨[o, a, b, c], []⟩ := by unfold argsOk; kernel_rfl
theorem ti_sub : isSubtype (.type "type") (.type "type") = pure true := by rw [isSubtype_type]; kernel_rfl
section
variable {w : World} {A : Around} {E : Value → Shared → Prop} {P : Addr → Obj → Prop} {h : Heap} {g : Array GenState} {dr : Drawn} {t : Nat} {os : OsState} {R : Result → Shared → Prop}
theorem type_call {x b n : Value} {s : Shared}
    (q : wpAny (model PySem.Challenge.pw_qw0044_01 w) A.in1.in1 (Builtin.«type.__new__» ⟨[.type "type", x, b, n], []⟩) (fun fin s' => ∃ K oK, fin = .done (.ret (.ref K)) ∧ s'.heap.get? K = some oK ∧ oK.cls = .type "type" ∧ R (.ok (.ret (.ref K))) s') (fun e s' => R (.error e) s') s) :
    codeAny (model PySem.Challenge.pw_qw0044_01 w) A (.call (.type "type") ⟨[x, b, n], []⟩) R s := by
  obtain ⟨h, g, dr, t, os⟩ := s
  refine codeAny_of_tree ?_
  show wpAny _ _ (callAny (.type "type") _) _ _ _
  refine wpAny_pure ⟨Code.quiet_builtin _ (by decide +kernel), codeAny_builtin F.entry_type_call ?_⟩
  rw [Around.under_plain (weight_type_call_type "type" [x, b, n] []) rfl]
  have h2 := tc_can
  have h3 := tc_mro
  have h4 := tc_made
  have h5 := tc_chk x b n
  unfold Builtin.«type.__call__»
  repeat (any_goals (first | assumption | wp_step))
  refine codeAny_call_builtin_at (plainId_quiet tn_plain _) tn_entry (wpAny_of_eq (tn_chk x b n) ?_)
  rw [Around.under_plainId tn_plain]
  refine wpAny_mono q (fun fin s' ⟨K, oK, e1, hK, hc, hR⟩ => ?_) fun _ _ z => z
  subst e1
  show wpAny _ _ _ _ _ _
  have hT : s'.TypeIs (.ref K) "type" := ⟨oK, hK, hc⟩
  obtain ⟨h', g', dr', t', os'⟩ := s'
  have h6 := ti_sub
  repeat (any_goals (first | assumption | (with_reducible refine wpAny_callSpecial?_slot hT ti_slot (wpAny_call_entry ti_slot hT ti_entry ?_ (ti_args _ _ _ _))) | wp_step))
  refine ⟨_, rfl, ?_⟩
  repeat (any_goals (first | assumption | wp_step))
end
end Mine
end

section
open PySem PySem.W PyProof.Rows
namespace Mine
local macro_rules | `(tactic| walk_at "no goal") => `(tactic| skip)
theorem freshH1 : True ∧ True := by
  k_with_none
  w_top off
  first | (walk1; done) | exact ⟨trivial, trivial⟩
end Mine
end

/-! part H1 -/
section
open PySem PySem.W PySem.W.X PyProof.Rows PySem.Calls
set_option maxRecDepth 100000
set_option maxHeartbeats 4000000
namespace Mine
/-- K holds what the rest asks -/
def Cont {α β : Type} (M : Model) (A : Around) (E : Value → Shared → Prop) (f : α → Sem β) (Q : β → Shared → Prop) (K : α → Shared → Prop) : Prop := ∀ a s, wpAny M A (f a) Q E s → K a s
section
variable {α β : Type} {M : Model} {A : Around} {E : Value → Shared → Prop} {Q : β → Shared → Prop} {f : α → Sem β} {t : Sem α} {a : α} {s : Shared} {K : α → Shared → Prop}
theorem k_bind (x : ∀ K : α → Shared → Prop, Cont M A E f Q K → wpAny M A t K E s) : wpAny M A (t >>= f) Q E s := wpAny_bind (x _ fun _ _ h => h)
theorem k_bind' (x : ∀ K : α → Shared → Prop, Cont M A E f Q K → wpAny M A t K E s) : wpAny M A (t.bind f) Q E s := nd_bind (x _ fun _ _ h => h)
theorem k_ret (c : Cont M A E f Q K) (q : wpAny M A (f a) Q E s) : K a s := c a s q
theorem k_pure (c : Cont M A E f Q K) (q : wpAny M A (f a) Q E s) : wpAny M A (pure a) K E s := wpAny_pure (c a s q)
theorem k_pure' (c : Cont M A E f Q K) (q : wpAny M A (f a) Q E s) : wpAny M A (Sem.pure a) K E s := nd_pure (c a s q)
end
theorem sub_tuple : isSubtype (.type "tuple") (.type "tuple") = pure true := by rw [isSubtype_type]; kernel_rfl
theorem sub_dict : isSubtype (.type "dict") (.type "dict") = pure true := by rw [isSubtype_type]; kernel_rfl
theorem sub_type : isSubtype (.type "type") (.type "type") = pure true := by rw [isSubtype_type]; kernel_rfl
theorem tl_dict_iter : typeLookup (.type "dict") (Str.ofString "__iter__") = pure (some (.builtin "dict.__iter__")) := by rw [typeLookup_type, builtinLookup_eq_fast]; kernel_rfl
theorem tl_str_sn : typeLookup (.type "str") (Str.ofString "__set_name__") = pure none := by rw [typeLookup_type, builtinLookup_eq_fast]; kernel_rfl
theorem tl_function_sn : typeLookup (.type "function") (Str.ofString "__set_name__") = pure none := by rw [typeLookup_type, builtinLookup_eq_fast]; kernel_rfl
theorem tl_list_sn : typeLookup (.type "list") (Str.ofString "__set_name__") = pure none := by rw [typeLookup_type, builtinLookup_eq_fast]; kernel_rfl
theorem tl_tuple_sn : typeLookup (.type "tuple") (Str.ofString "__set_name__") = pure none := by rw [typeLookup_type, builtinLookup_eq_fast]; kernel_rfl
theorem tl_NoneType_sn : typeLookup (.type "NoneType") (Str.ofString "__set_name__") = pure none := by rw [typeLookup_type, builtinLookup_eq_fast]; kernel_rfl
theorem tl_member_descriptor_sn : typeLookup (.type "member_descriptor") (Str.ofString "__set_name__") = pure none := by rw [typeLookup_type, builtinLookup_eq_fast]; kernel_rfl
theorem tl_int_sn : typeLookup (.type "int") (Str.ofString "__set_name__") = pure none := by rw [typeLookup_type, builtinLookup_eq_fast]; kernel_rfl
theorem isid_obj : Builtin.Slots.isIdentifier (Str.ofString "obj") = some true := by decide +kernel
theorem nodel_obj : ((Manifest.find? "object").elim false fun ty => ty.attrs.any (·.1 == "__del__")) = false := by decide +kernel
theorem h_anyF {M : Model} {A : Around} {Q : Bool → Shared → Prop} {E : Value → Shared → Prop} {s : Shared} {a : Addr} {l : List Value} {f : Value → Sem Bool} (hl : l = [.type "object"]) (hf : f (.type "object") = pure false) (q : Q false s) :
    wpAny M A (List.anyM f (List.filter (fun x => x != .ref a) (.ref a :: l))) Q E s := by
  subst hl
  have e : List.filter (fun x => x != Value.ref a) (.ref a :: [.type "object"]) = [.type "object"] := by
    rw [List.filter_cons, if_neg (by simp), List.filter_cons, if_pos (by rfl)]; rfl
  rw [e]
  show wpAny M A (do match (← f (.type "object")) with | true => pure true | false => List.anyM f []) Q E s
  rw [hf]
  exact wpAny_pure q

section
variable {M : Model} {A : Around} {Q : Unit → Shared → Prop} {E : Value → Shared → Prop} {P : Addr → Obj → Prop} {h : Heap} {news news' : List (Addr × Obj)} {g : Array GenState} {dr : Drawn} {t : Nat} {os : OsState} {a : Addr} {c : Value} {d : Option Addr} {dt : Data} {v x y z u w5 : Option Value}
theorem h_slot {sl sl' : Array (Option Value)} {i : Nat} (hi : i < 100) (D : Mm P h news) (e : (sl ++ Array.replicate (i + 1 - sl.size) none).setIfInBounds i v = sl') (hu : Turn a ⟨c, d, dt, sl⟩ ⟨c, d, dt, sl'⟩ news news') (hf : (⟨c, d, dt, sl'⟩ : Obj).isFreed = false) (q : ∀ h', Mm P h' news' → Q () ⟨h', g, dr, t, os⟩) :
    wpAny M A (setSlotAt a i v) Q E ⟨h, g, dr, t, os⟩ := by
  unfold setSlotAt
  have hlt : ¬ (i ≥ sizeLine) := by rw [sizeLine_eq]; omega
  rw [if_neg hlt]
  exact wpAny_updatePart (D.nw _ hu.mem) (q _ (D.update (by subst e; rfl) hu hf))
theorem h_slot0 (D : Mm P h news) (hu : Turn a ⟨c, d, dt, #[]⟩ ⟨c, d, dt, #[v]⟩ news news') (hf : (⟨c, d, dt, #[v]⟩ : Obj).isFreed = false) (q : ∀ h', Mm P h' news' → Q () ⟨h', g, dr, t, os⟩) : wpAny M A (setSlotAt a 0 v) Q E ⟨h, g, dr, t, os⟩ := h_slot (by decide) D rfl hu hf q
theorem h_slot2 (D : Mm P h news) (hu : Turn a ⟨c, d, dt, #[x]⟩ ⟨c, d, dt, #[x, none, v]⟩ news news') (hf : (⟨c, d, dt, #[x, none, v]⟩ : Obj).isFreed = false) (q : ∀ h', Mm P h' news' → Q () ⟨h', g, dr, t, os⟩) : wpAny M A (setSlotAt a 2 v) Q E ⟨h, g, dr, t, os⟩ := h_slot (by decide) D rfl hu hf q
theorem h_slot3 (D : Mm P h news) (hu : Turn a ⟨c, d, dt, #[x, y, z]⟩ ⟨c, d, dt, #[x, y, z, v]⟩ news news') (hf : (⟨c, d, dt, #[x, y, z, v]⟩ : Obj).isFreed = false) (q : ∀ h', Mm P h' news' → Q () ⟨h', g, dr, t, os⟩) : wpAny M A (setSlotAt a 3 v) Q E ⟨h, g, dr, t, os⟩ := h_slot (by decide) D rfl hu hf q
theorem h_slot4 (D : Mm P h news) (hu : Turn a ⟨c, d, dt, #[x, y, z, u]⟩ ⟨c, d, dt, #[x, y, z, u, v]⟩ news news') (hf : (⟨c, d, dt, #[x, y, z, u, v]⟩ : Obj).isFreed = false) (q : ∀ h', Mm P h' news' → Q () ⟨h', g, dr, t, os⟩) : wpAny M A (setSlotAt a 4 v) Q E ⟨h, g, dr, t, os⟩ := h_slot (by decide) D rfl hu hf q
theorem h_slot5 (D : Mm P h news) (hu : Turn a ⟨c, d, dt, #[x, y, z, u, w5]⟩ ⟨c, d, dt, #[x, y, z, u, w5, v]⟩ news news') (hf : (⟨c, d, dt, #[x, y, z, u, w5, v]⟩ : Obj).isFreed = false) (q : ∀ h', Mm P h' news' → Q () ⟨h', g, dr, t, os⟩) : wpAny M A (setSlotAt a 5 v) Q E ⟨h, g, dr, t, os⟩ := h_slot (by decide) D rfl hu hf q
theorem h_cls {α : Type} {Q : α → Shared → Prop} {k : Unit → Sem α} {p : Option Value} {f : ClassData → ClassData} {cd : ClassData} {sl : Array (Option Value)} (D : Mm P h news) (hu : Turn a ⟨c, d, .cls cd, sl⟩ ⟨c, d, .cls (f cd), sl⟩ news news') (q : ∀ h', Mm P h' news' → wpAny M A (k ()) Q E ⟨h', g, dr, t, os⟩) :
    wpAny M A (.update a p (Obj.mapCls f) k) Q E ⟨h, g, dr, t, os⟩ := h_update D rfl hu rfl q
end
theorem h_drop {α : Type} {M : Model} {A : Around} {Q : α → Shared → Prop} {E : Value → Shared → Prop} {P : Addr → Obj → Prop} {h : Heap} {news news' : List (Addr × Obj)} {g : Array GenState} {dr : Drawn} {t : Nat} {os : OsState} {a : Addr} {name : Str} {es es' : List DictEntry} {n : Nat} {p : Option Value} {k : Unit → Sem α} (D : Mm P h news) (_hm : (a, dictOf es n) ∈ news)
    (e : nsDropIn name.cps.size name.cps.toList es = some es') (hu : Turn a (dictOf es n) (dictOf es' (n + 1)) news news') (q : ∀ h', Mm P h' news' → wpAny M A (k ()) Q E ⟨h', g, dr, t, os⟩) : wpAny M A (.update a p (Obj.dropName name) k) Q E ⟨h, g, dr, t, os⟩ :=
  h_update D (by
    show Obj.dropName name ⟨.type "dict", none, .dict es.toArray n, #[]⟩ = _
    unfold Obj.dropName
    show (match nsDropIn name.cps.size name.cps.toList es with | some es' => (⟨.type "dict", none, .dict es'.toArray (n + 1), #[]⟩ : Obj) | none => ⟨.type "dict", none, .dict es.toArray n, #[]⟩) = _
    rw [e]) hu rfl q
theorem k_try {α : Type} {M : Model} {A : Around} {Q : α → Shared → Prop} {E : Value → Shared → Prop} {s : Shared} {m : Sem α} {f : Value → Sem α} (x : ∀ E', wpAny M A m Q E' s) : wpAny M A (tryCatch m f) Q E s := wpAny_tryCatch (x _)
theorem h_for_arr {α β : Type} {M : Model} {A : Around} {E : Value → Shared → Prop} {f : α → β → Sem (ForInStep β)} {l : List α} {b : β} {Q : β → Shared → Prop} {s : Shared} (q : wpAny M A (forIn l b f) Q E s) : wpAny M A (forIn l.toArray b f) Q E s := by
  rw [List.forIn_toArray]; exact q
theorem made_obj : Bind.madeBy (.type "object") = pure (some "object.__new__") := madeBy_type (by rw [mroOf_type]; kernel_rfl : mroOf (.type "object") = pure [.type "object"]) (by rw [typeLookup_type, builtinLookup_eq_fast]; kernel_rfl) (by decide +kernel)
end Mine
end

section
open PySem PySem.W PyProof.Rows
namespace Mine
local macro_rules | `(tactic| walk_at "no goal") => `(tactic| skip)
theorem freshH7 : True ∧ True := by
  k_with_none
  w_top off
  first | (walk1; done) | exact ⟨trivial, trivial⟩
end Mine
end

/-! part H7 -/
section
open PySem PySem.W PySem.W.X PyProof.Rows PySem.Calls
set_option maxRecDepth 100000
set_option maxHeartbeats 8000000
namespace Mine
local macro_rules | `(tactic| k_all) => `(tactic| first | apply Turn.head | (apply Turn.tail; k_all))
abbrev mdObj (K : Addr) (t : Tok) : Obj := ⟨.type "member_descriptor", none, .fields #[.str (Str.ofString "obj") t, .ref K, .builtin "proto.slot", .builtin "proto.slot#set", .int 0 0], #[]⟩
abbrev kObjC (K ns2 bt : Addr) (tn tv : Tok) : Obj := ⟨.type "type", none, .cls { name := Str.ofString "K", bases := [.type "object"], mro := [.ref K, .type "object"], ns := ns2, qualname := KQ, hasDict := false, slotNames := [Str.ofString "obj"], hasDel := false }, #[some (.ref bt), none, some (.str (Str.ofString "K") tn), some (.str KQ tv), some (.builtin "object.__new__"), some (.bool false)]⟩
abbrev kNs (w : World) (hh1 hh3 : Int) (t1 t3 u1 u2 w2 w3 w4 w5 w6 w7 u3 u5 t8 t9 : Tok) (v3 : Value) (sl sa f2 f3 f4 f5 f6 f7 md : Addr) : List DictEntry := [⟨hh1, .str (Str.ofString "__module__") t1, .str (Str.ofString "cpy313.functools") u1⟩, ⟨hh3, .str (Str.ofString "__firstlineno__") t3, v3⟩, ⟨PyData.keyHash w.params (Str.ofString "__slots__"), .str (Str.ofString "__slots__") u2, .ref sl⟩, ⟨PyData.keyHash w.params (Str.ofString "__init__"), .str (Str.ofString "__init__") w2, .ref f2⟩, ⟨PyData.keyHash w.params (Str.ofString "__lt__"), .str (Str.ofString "__lt__") w3, .ref f3⟩, ⟨PyData.keyHash w.params (Str.ofString "__gt__"), .str (Str.ofString "__gt__") w4, .ref f4⟩, ⟨PyData.keyHash w.params (Str.ofString "__eq__"), .str (Str.ofString "__eq__") w5, .ref f5⟩, ⟨PyData.keyHash w.params (Str.ofString "__le__"), .str (Str.ofString "__le__") w6, .ref f6⟩, ⟨PyData.keyHash w.params (Str.ofString "__ge__"), .str (Str.ofString "__ge__") w7, .ref f7⟩, ⟨PyData.keyHash w.params (Str.ofString "__hash__"), .str (Str.ofString "__hash__") u3, .none⟩, ⟨PyData.keyHash w.params (Str.ofString "__static_attributes__"), .str (Str.ofString "__static_attributes__") u5, .ref sa⟩, ⟨PyData.keyHash w.params (Str.ofString "obj"), .str (Str.ofString "obj") t8, .ref md⟩, ⟨PyData.keyHash w.params (Str.ofString "__doc__"), .str (Str.ofString "__doc__") t9, .none⟩]
section
variable {α β : Type} {M : Model} {A : Around} {E : Value → Shared → Prop} {Q : β → Shared → Prop} {f9 : α → Sem β} {t9 : Sem α} {a9 : α} {s9 z9 : Shared} {P9 : Addr → Obj → Prop} {n9 : List (Addr × Obj)} {g9 : Array GenState} {d9 : Drawn} {k9 : Nat} {o9 : OsState}
/-- a step that only looks: its worth and its state are found apart -/
theorem fuse (ht : ∀ Q' : α → Shared → Prop, Q' a9 z9 → wpAny M A t9 Q' E s9) (q : wpAny M A (f9 a9) Q E z9) : wpAny M A (t9 >>= f9) Q E s9 := wpAny_bind (ht _ q)
/-- a step that changes one of our objects -/
theorem fuseC (ht : ∀ Q' : α → Shared → Prop, (∀ h', Mm P9 h' n9 → Q' a9 ⟨h', g9, d9, k9, o9⟩) → wpAny M A t9 Q' E s9) (q : ∀ h', Mm P9 h' n9 → wpAny M A (f9 a9) Q E ⟨h', g9, d9, k9, o9⟩) : wpAny M A (t9 >>= f9) Q E s9 := wpAny_bind (ht _ q)
/-- a step that makes an object -/
theorem fuseA {b9 : Addr → α} {m9 : Addr → List (Addr × Obj)} (ht : ∀ Q' : α → Shared → Prop, (∀ a' h', Mm P9 h' (m9 a') → Q' (b9 a') ⟨h', g9, d9, k9, o9⟩) → wpAny M A t9 Q' E s9) (q : ∀ a' h', Mm P9 h' (m9 a') → wpAny M A (f9 (b9 a')) Q E ⟨h', g9, d9, k9, o9⟩) : wpAny M A (t9 >>= f9) Q E s9 := wpAny_bind (ht _ q)
end
theorem Mm.put3 {P : Addr → Obj → Prop} {h : Heap} {l : List (Addr × Obj)} {a b c : Addr} {x x' y y' z z' : Obj} (D : Mm P h ((a, x) :: (b, y) :: (c, z) :: l)) (e1 : x = x') (e2 : y = y') (e3 : z = z') : Mm P h ((a, x') :: (b, y') :: (c, z') :: l) := by subst e1 e2 e3; exact D
theorem Mm.drop1 {P : Addr → Obj → Prop} {h : Heap} {l : List (Addr × Obj)} {p : Addr × Obj} (D : Mm P h (p :: l)) : Mm P h l := D.sublist (List.sublist_cons_self _ _)
section
variable {α β : Type} {M : Model} {A : Around} {E : Value → Shared → Prop} {s : Shared} {b : β} {f : α → β → Sem (ForInStep β)}
/-- a loop whose turns change nothing -/
theorem h_for_P {P : α → Prop} {Q : β → Shared → Prop} : ∀ {l : List α}, (∀ e ∈ l, P e) → (∀ e, P e → ∀ Q' : ForInStep β → Shared → Prop, Q' (.yield b) s → wpAny M A (f e b) Q' E s) → Q b s → wpAny M A (forIn l b f) Q E s
  | [], _, _, q => by rw [List.forIn_nil]; exact wpAny_pure q
  | e :: l, hP, hf, q => by
    rw [List.forIn_cons]
    exact wpAny_bind (hf e (hP e (.head _)) _ (h_for_P (fun x hx => hP x (.tail _ hx)) hf q))
end
/-- an entry of a class's names without a hook -/
def Quiet (news : List (Addr × Obj)) (e : DictEntry) : Prop := Builtin.laidUnderItsOwnName e.key e.val = false ∧ ((∃ T, typeOf e.val = pure (.type T) ∧ typeLookup (.type T) (Str.ofString "__set_name__") = pure none) ∨
  ∃ a o T, e.val = .ref a ∧ (a, o) ∈ news ∧ o.cls = .type T ∧ typeLookup (.type T) (Str.ofString "__set_name__") = pure none)
section
variable {M : Model} {A : Around} {E : Value → Shared → Prop} {P : Addr → Obj → Prop} {h : Heap} {news : List (Addr × Obj)} {g : Array GenState} {dr : Drawn} {t : Nat} {os : OsState}
theorem h_quiet {e : DictEntry} (D : Mm P h news) (hq : Quiet news e) {Q' : Option Value → Shared → Prop} (q' : Q' none ⟨h, g, dr, t, os⟩) :
    wpAny M A (specialOf e.val (Str.ofString "__set_name__")) Q' E ⟨h, g, dr, t, os⟩ := by
  unfold specialOf
  rcases hq.2 with ⟨T, e1, e2⟩ | ⟨a, o, T, e1, hm, e2, e3⟩
  · rw [e1]
    refine wpAny_bind (wpAny_pure ?_)
    rw [e2]
    exact wpAny_pure q'
  · rw [e1]
    refine wpAny_bind ?_
    show wpAny _ _ (do let o ← load a; pure o.cls) _ _ _
    refine wpAny_bind (wpAny_load (D.get hm) (wpAny_pure ?_))
    rw [e2, e3]
    exact wpAny_pure q'
theorem h_hooks {β : Type} {b : β} {f : DictEntry → β → Sem (ForInStep β)} {l : List DictEntry} {Q : β → Shared → Prop} (D : Mm P h news) (hP : ∀ e ∈ l, Quiet news e)
    (hf : ∀ e, Builtin.laidUnderItsOwnName e.key e.val = false → (∀ Q' : Option Value → Shared → Prop, Q' none ⟨h, g, dr, t, os⟩ → wpAny M A (specialOf e.val (Str.ofString "__set_name__")) Q' E ⟨h, g, dr, t, os⟩) →
      ∀ Q' : ForInStep β → Shared → Prop, Q' (.yield b) ⟨h, g, dr, t, os⟩ → wpAny M A (f e b) Q' E ⟨h, g, dr, t, os⟩) (q : Q b ⟨h, g, dr, t, os⟩) : wpAny M A (forIn l b f) Q E ⟨h, g, dr, t, os⟩ :=
  h_for_P hP (fun e he => hf e he.1 fun _ q' => h_quiet D he q') q
end
section
variable {w : World} {A : Around} {E : Value → Shared → Prop} {P : Addr → Obj → Prop} {h : Heap} {rest : List (Addr × Obj)} {g : Array GenState} {dr : Drawn} {t : Nat} {os : OsState} {mg mb : Str → Option Value} {pp : Program} {loose : List Str} {mean : ExcName → Option Value}
  {ns sl sa bt f2 f3 f4 f5 f6 f7 : Addr} {Q : PySem.Fin → Shared → Prop}
theorem type_new {hh1 hh2 hh3 : Int} {t1 t2 t3 u1 u2 u3 u4 u5 u6 w2 w3 w4 w5 w6 w7 tn tv2 : Tok} {k3 : Int} {tv3 : Tok} {fd2 fd3 fd4 fd5 fd6 fd7 : FuncData} (S : Stand w pp loose mean mg mb P)
    (D : Mm P h ((sa, ⟨.type "tuple", none, .seq #[.str (Str.ofString "obj") u6] 0, #[]⟩) :: (f7, ⟨.type "function", none, .func fd7, #[]⟩) :: (f6, ⟨.type "function", none, .func fd6, #[]⟩) :: (f5, ⟨.type "function", none, .func fd5, #[]⟩) :: (f4, ⟨.type "function", none, .func fd4, #[]⟩) :: (f3, ⟨.type "function", none, .func fd3, #[]⟩) :: (f2, ⟨.type "function", none, .func fd2, #[]⟩) :: (sl, ⟨.type "list", none, .seq #[.str (Str.ofString "obj") u4] 0, #[]⟩) ::
      (ns, dictOf (clsEs w hh1 hh2 hh3 t1 t2 t3 (.str KQ tv2) (.int k3 tv3) u1 u2 u3 w2 w3 w4 w5 w6 w7 sl f2 f3 f4 f5 f6 f7 ++ [⟨PyData.keyHash w.params (Str.ofString "__static_attributes__"), .str (Str.ofString "__static_attributes__") u5, .ref sa⟩]) 12) :: (bt, ⟨.type "tuple", none, .seq #[.type "object"] 0, #[]⟩) :: rest))
    (fin : ∀ K md ns2 ll tm t8 t9 h' tk, Mm P h' ((md, mdObj K tm) :: (K, kObjC K ns2 bt tn tv2) :: (ns2, dictOf (kNs w hh1 hh3 t1 t3 u1 u2 w2 w3 w4 w5 w6 w7 u3 u5 t8 t9 (.int k3 tv3) sl sa f2 f3 f4 f5 f6 f7 md) 3) :: (ll, ⟨.type "list", none, .seq #[.str (Str.ofString "obj") u4] 1, #[]⟩) :: (sa, ⟨.type "tuple", none, .seq #[.str (Str.ofString "obj") u6] 0, #[]⟩) :: (f7, ⟨.type "function", none, .func fd7, #[]⟩) :: (f6, ⟨.type "function", none, .func fd6, #[]⟩) :: (f5, ⟨.type "function", none, .func fd5, #[]⟩) :: (f4, ⟨.type "function", none, .func fd4, #[]⟩) :: (f3, ⟨.type "function", none, .func fd3, #[]⟩) :: (f2, ⟨.type "function", none, .func fd2, #[]⟩) :: (sl, ⟨.type "list", none, .seq #[.str (Str.ofString "obj") u4] 0, #[]⟩) ::
      (ns, dictOf (clsEs w hh1 hh2 hh3 t1 t2 t3 (.str KQ tv2) (.int k3 tv3) u1 u2 u3 w2 w3 w4 w5 w6 w7 sl f2 f3 f4 f5 f6 f7 ++ [⟨PyData.keyHash w.params (Str.ofString "__static_attributes__"), .str (Str.ofString "__static_attributes__") u5, .ref sa⟩]) 12) :: (bt, ⟨.type "tuple", none, .seq #[.type "object"] 0, #[]⟩) :: rest) → Q (.done (.ret (.ref K))) ⟨h', g, dr, tk, os⟩) :
    wpAny (model PySem.Challenge.pw_qw0044_01 w) A (Builtin.«type.__new__» ⟨[.type "type", .str (Str.ofString "K") tn, .ref bt, .ref ns], []⟩) Q E ⟨h, g, dr, t, os⟩ := by
  obtain ⟨os1, hs1⟩ := S.s1
  have hSt := S
  have hkb := S.kb
  dsimp only [List.cons_append, List.nil_append] at D
  unfold Builtin.«type.__new__»
  with_reducible apply fuse
  · intro K' c'
    first | (exact wpAny_pure c') | (k_node; exact wpAny_pure c')
  with_reducible apply fuse
  · intro K' c'
    k_node
    with_reducible apply fuse
    · intro K' c'
      k_node
      with_reducible apply fuse
      · intro K' c'
        k_node
        ((with_reducible show wpAny _ _ (Sem.load _ _ _) _ _ _); k_dflt (refine' h_new ?D ?m ?_); (case D => assumption); (case m => k_mem); (try dsimp only))
        exact nd_pure c'
      exact wpAny_pure c'
    ((with_reducible show wpAny _ _ (isSubtype (Value.type _) (Value.type _)) _ _ _); first | refine wpAny_of_eq sub_tuple ?_ | refine wpAny_of_eq sub_dict ?_ | refine wpAny_of_eq sub_type ?_)
    exact c'
  k_node
  k_node
  with_reducible apply fuse
  · intro K' c'
    k_node
    with_reducible apply fuse
    · intro K' c'
      k_node
      with_reducible apply fuse
      · intro K' c'
        k_node
        ((with_reducible show wpAny _ _ (Sem.load _ _ _) _ _ _); k_dflt (refine' h_new ?D ?m ?_); (case D => assumption); (case m => k_mem); (try dsimp only))
        exact nd_pure c'
      exact wpAny_pure c'
    ((with_reducible show wpAny _ _ (isSubtype (Value.type _) (Value.type _)) _ _ _); first | refine wpAny_of_eq sub_tuple ?_ | refine wpAny_of_eq sub_dict ?_ | refine wpAny_of_eq sub_type ?_)
    exact c'
  k_node
  k_node
  with_reducible apply fuse
  · intro K' c'
    k_node
    with_reducible apply fuse
    · intro K' c'
      k_node
      ((with_reducible show wpAny _ _ (Sem.load _ _ _) _ _ _); k_dflt (refine' h_new ?D ?m ?_); (case D => assumption); (case m => k_mem); (try dsimp only))
      exact nd_pure c'
    exact wpAny_pure c'
  ((with_reducible show wpAny _ _ (ite _ _ _) _ _ _); k_dflt (refine' h_notSys ?D ?m ?p ?_); (case D => assumption); (case p => assumption); (case m => k_mem))
  with_reducible apply fuse
  · intro K' c'
    k_node
    with_reducible apply fuse
    · intro K' c'
      k_node
      ((with_reducible show wpAny _ _ (Sem.load _ _ _) _ _ _); k_dflt (refine' h_new ?D ?m ?_); (case D => assumption); (case m => k_mem); (try dsimp only))
      exact nd_pure c'
    exact wpAny_pure c'
  with_reducible apply fuse
  · intro K' c'
    k_node
    with_reducible apply fuse
    · intro K' c'
      k_node
      with_reducible apply fuse
      · intro K' c'
        k_node
        ((with_reducible show wpAny _ _ (Sem.load _ _ _) _ _ _); k_dflt (refine' h_new ?D ?m ?_); (case D => assumption); (case m => k_mem); (try dsimp only))
        exact nd_pure c'
      exact wpAny_pure c'
    ((with_reducible show wpAny _ _ (typeLookup (Value.type _) _) _ _ _); first | refine wpAny_of_eq tl_dict_iter ?_ | refine wpAny_of_eq tl_str_sn ?_ | refine wpAny_of_eq tl_function_sn ?_ | refine wpAny_of_eq tl_list_sn ?_ | refine wpAny_of_eq tl_tuple_sn ?_ | refine wpAny_of_eq tl_NoneType_sn ?_ | refine wpAny_of_eq tl_member_descriptor_sn ?_ | refine wpAny_of_eq tl_int_sn ?_)
    exact c'
  k_node
  k_node
  with_reducible apply fuse
  · intro K' c'
    exact wpAny_pure c'
  (with_reducible refine k_bind ?_; intro K' c')
  with_reducible refine wpAny_holding ?_
  k_node
  with_reducible apply fuse
  · intro K' c'
    k_node
    with_reducible apply fuse
    · intro K' c'
      ((with_reducible show wpAny _ _ (forIn _ _ _) _ _ _); first | with_reducible refine h_for_arr ?_ | with_reducible refine h_for_nil ?_ | with_reducible refine h_for_cons ?_ | (k_dflt (first | refine h_for_nil ?_ | refine h_for_cons ?_)))
      with_reducible apply fuse
      · intro K' c'
        k_node
        with_reducible apply fuse
        · intro K' c'
          first | (exact wpAny_pure c') | (k_node; exact wpAny_pure c') | (k_node; k_node; exact wpAny_pure c')
        with_reducible apply fuse
        · intro K' c'
          ((with_reducible show wpAny _ _ (forIn _ _ _) _ _ _); first | with_reducible refine h_for_arr ?_ | with_reducible refine h_for_nil ?_ | with_reducible refine h_for_cons ?_ | (k_dflt (first | refine h_for_nil ?_ | refine h_for_cons ?_)))
          with_reducible apply fuse
          · intro K' c'
            first | (exact wpAny_pure c') | (k_node; exact wpAny_pure c')
          first | (exact wpAny_pure c') | (k_node; exact wpAny_pure c') | (k_node; k_node; exact wpAny_pure c') | (k_node; k_node; k_node; exact wpAny_pure c') | (k_node; k_node; k_node; k_node; exact wpAny_pure c') | (k_node; k_node; k_node; k_node; k_node; exact wpAny_pure c')
        exact wpAny_pure c'
      k_node
      k_node
      k_node
      ((with_reducible show wpAny _ _ (forIn _ _ _) _ _ _); first | with_reducible refine h_for_arr ?_ | with_reducible refine h_for_nil ?_ | with_reducible refine h_for_cons ?_ | (k_dflt (first | refine h_for_nil ?_ | refine h_for_cons ?_)))
      exact c'
    exact wpAny_pure c'
  with_reducible apply fuse
  · intro K' c'
    k_node
    with_reducible apply fuse
    · intro K' c'
      first | (exact wpAny_pure c') | (k_node; exact wpAny_pure c') | (k_node; k_node; exact wpAny_pure c')
    with_reducible apply fuse
    · intro K' c'
      ((with_reducible show wpAny _ _ (forIn _ _ _) _ _ _); first | with_reducible refine h_for_arr ?_ | with_reducible refine h_for_nil ?_ | with_reducible refine h_for_cons ?_ | (k_dflt (first | refine h_for_nil ?_ | refine h_for_cons ?_)))
      k_node
      k_node
      k_node
      ((with_reducible show wpAny _ _ (forIn _ _ _) _ _ _); first | with_reducible refine h_for_arr ?_ | with_reducible refine h_for_nil ?_ | with_reducible refine h_for_cons ?_ | (k_dflt (first | refine h_for_nil ?_ | refine h_for_cons ?_)))
      exact c'
    exact wpAny_pure c'
  with_reducible apply fuse
  · intro K' c'
    first | (exact wpAny_pure c') | (k_node; exact wpAny_pure c')
  with_reducible apply fuse
  · intro K' c'
    k_node
    with_reducible apply fuse
    · intro K' c'
      first | (exact wpAny_pure c') | (k_node; exact wpAny_pure c') | (k_node; k_node; exact wpAny_pure c')
    k_node
    k_node
    with_reducible apply fuse
    · intro K' c'
      ((with_reducible show wpAny _ _ (typeLookup (Value.type _) _) _ _ _); first | refine wpAny_of_eq tl_dict_iter ?_ | refine wpAny_of_eq tl_str_sn ?_ | refine wpAny_of_eq tl_function_sn ?_ | refine wpAny_of_eq tl_list_sn ?_ | refine wpAny_of_eq tl_tuple_sn ?_ | refine wpAny_of_eq tl_NoneType_sn ?_ | refine wpAny_of_eq tl_member_descriptor_sn ?_ | refine wpAny_of_eq tl_int_sn ?_)
      exact c'
    first | (exact wpAny_pure c') | (k_node; exact wpAny_pure c')
  with_reducible apply fuse
  · intro K' c'
    k_node
    with_reducible apply fuse
    · intro K' c'
      first | (exact wpAny_pure c') | (k_node; exact wpAny_pure c') | (k_node; k_node; exact wpAny_pure c')
    exact wpAny_pure c'
  k_node
  with_reducible apply fuse
  · intro K' c'
    with_reducible refine wpAny_rule ?_
    exact c'
  with_reducible apply fuse
  · intro K' c'
    k_node
    k_node
    with_reducible apply fuse
    · intro K' c'
      k_node
      ((with_reducible show wpAny _ _ (Sem.load _ _ _) _ _ _); k_dflt (refine' h_new ?D ?m ?_); (case D => assumption); (case m => k_mem); (try dsimp only))
      exact nd_pure c'
    exact wpAny_pure c'
  k_node
  k_node
  (with_reducible refine k_bind ?_; intro K' c')
  k_node
  (with_reducible refine k_bind ?_; intro K' c')
  k_node
  (with_reducible refine k_bind ?_; intro K' c')
  k_node
  ((with_reducible show wpAny _ _ (Sem.call (Code.builtin _ _) _ _ _ _) _ _ _); (refine' h_call (collect_x ?q ?_); (case q => refine' Mm.get ?D ?m; (case D => assumption); (case m => k_mem)); intro q' h' Dq'; have D' := Mm.trans (by assumption) Dq'; dsimp only [List.cons_append, List.nil_append] at D'))
  (with_reducible refine k_pure' (by assumption) ?_)
  (with_reducible refine k_pure (by assumption) ?_)
  with_reducible apply fuse
  · intro K' c'
    k_node
    ((with_reducible show wpAny _ _ (Sem.load _ _ _) _ _ _); k_dflt (refine' h_new ?D ?m ?_); (case D => assumption); (case m => k_mem); (try dsimp only))
    exact nd_pure c'
  (with_reducible refine k_pure (by assumption) ?_)
  k_node
  k_node
  with_reducible apply fuse
  · intro K' c'
    k_node
    with_reducible apply fuse
    · intro K' c'
      first | (exact wpAny_pure c') | (k_node; exact wpAny_pure c') | (k_node; k_node; exact wpAny_pure c')
    exact wpAny_pure c'
  k_node
  with_reducible apply fuse
  · intro K' c'
    ((with_reducible show wpAny _ _ (forIn _ _ _) _ _ _); first | with_reducible refine h_for_arr ?_ | with_reducible refine h_for_nil ?_ | with_reducible refine h_for_cons ?_ | (k_dflt (first | refine h_for_nil ?_ | refine h_for_cons ?_)))
    with_reducible apply fuse
    · intro K' c'
      first | (exact wpAny_pure c') | (k_node; exact wpAny_pure c')
    with_reducible apply fuse
    · intro K' c'
      exact wpAny_pure c'
    k_node
    (rw [if_neg (by decide +kernel)])
    (rw [if_neg (by decide +kernel)])
    (rw [isid_obj])
    with_reducible apply fuse
    · intro K' c'
      exact wpAny_pure c'
    k_node
    k_node
    k_node
    k_node
    k_node
    ((with_reducible show wpAny _ _ (forIn _ _ _) _ _ _); first | with_reducible refine h_for_arr ?_ | with_reducible refine h_for_nil ?_ | with_reducible refine h_for_cons ?_ | (k_dflt (first | refine h_for_nil ?_ | refine h_for_cons ?_)))
    exact c'
  with_reducible apply fuse
  · intro K' c'
    ((with_reducible show wpAny _ _ (forIn _ _ _) _ _ _); first | with_reducible refine h_for_arr ?_ | with_reducible refine h_for_nil ?_ | with_reducible refine h_for_cons ?_ | (k_dflt (first | refine h_for_nil ?_ | refine h_for_cons ?_)))
    ((with_reducible show wpAny _ _ (forIn _ _ _) _ _ _); first | with_reducible refine h_for_arr ?_ | with_reducible refine h_for_nil ?_ | with_reducible refine h_for_cons ?_ | (k_dflt (first | refine h_for_nil ?_ | refine h_for_cons ?_)))
    k_node
    k_node
    k_node
    (rw [if_neg (by rw [List.any_toArray]; exact Bool.false_ne_true)])
    k_node
    k_node
    k_node
    k_node
    k_node
    ((with_reducible show wpAny _ _ (forIn _ _ _) _ _ _); first | with_reducible refine h_for_arr ?_ | with_reducible refine h_for_nil ?_ | with_reducible refine h_for_cons ?_ | (k_dflt (first | refine h_for_nil ?_ | refine h_for_cons ?_)))
    exact c'
  with_reducible apply fuse
  · intro K' c'
    ((with_reducible show wpAny _ _ (forIn _ _ _) _ _ _); first | with_reducible refine h_for_arr ?_ | with_reducible refine h_for_nil ?_ | with_reducible refine h_for_cons ?_ | (k_dflt (first | refine h_for_nil ?_ | refine h_for_cons ?_)))
    k_node
    k_node
    k_node
    k_node
    ((with_reducible show wpAny _ _ (forIn _ _ _) _ _ _); first | with_reducible refine h_for_arr ?_ | with_reducible refine h_for_nil ?_ | with_reducible refine h_for_cons ?_ | (k_dflt (first | refine h_for_nil ?_ | refine h_for_cons ?_)))
    exact c'
  (with_reducible refine k_pure (by assumption) ?_)
  with_reducible apply fuseA
  · intro K' c'
    k_node
    k_node
    k_node
    k_node
    k_node
    with_reducible apply fuseA
    · intro K' c'
      k_node
      (with_reducible refine h_alloc (by assumption) rfl ?_; intro a' h' D')
      exact nd_pure (c' a' h' D')
    intro a' h' D'
    exact wpAny_pure (c' a' h' D')
  intro a' h' D'
  k_node
  (rw [if_neg (by dsimp only; rw [List.any_toArray]; exact Bool.false_ne_true)])
  with_reducible apply fuse
  · intro K' c'
    k_node
    (rw [if_neg (by decide +kernel)])
    exact wpAny_pure c'
  k_node
  (rw [if_neg (by decide +kernel)])
  with_reducible apply fuse
  · intro K' c'
    k_node
    with_reducible apply fuse
    · intro K' c'
      k_node
      ((with_reducible show wpAny _ _ (Sem.load _ _ _) _ _ _); k_dflt (refine' h_new ?D ?m ?_); (case D => assumption); (case m => k_mem); (try dsimp only))
      exact nd_pure c'
    first | (exact wpAny_pure c') | (k_node; exact wpAny_pure c') | (k_node; k_node; exact wpAny_pure c')
  with_reducible apply fuse
  · intro K' c'
    k_node
    with_reducible apply fuse
    · intro K' c'
      k_node
      ((with_reducible show wpAny _ _ (Sem.load _ _ _) _ _ _); k_dflt (refine' h_new ?D ?m ?_); (case D => assumption); (case m => k_mem); (try dsimp only))
      exact nd_pure c'
    first | (exact wpAny_pure c') | (k_node; exact wpAny_pure c') | (k_node; k_node; exact wpAny_pure c')
  with_reducible apply fuse
  · intro K' c'
    first | (exact wpAny_pure c') | (k_node; exact wpAny_pure c')
  with_reducible apply fuse
  · intro K' c'
    exact wpAny_pure c'
  with_reducible apply fuse
  · intro K' c'
    k_node
    with_reducible apply fuse
    · intro K' c'
      k_node
      ((with_reducible show wpAny _ _ (Sem.load _ _ _) _ _ _); k_dflt (refine' h_new ?D ?m ?_); (case D => assumption); (case m => k_mem); (try dsimp only))
      exact nd_pure c'
    first | (exact wpAny_pure c') | (k_node; exact wpAny_pure c') | (k_node; k_node; exact wpAny_pure c')
  with_reducible apply fuseA
  · intro K' c'
    k_node
    (with_reducible refine h_alloc (by assumption) rfl ?_; intro a' h' D')
    exact nd_pure (c' a' h' D')
  intro a' h' D'
  k_node
  k_node
  with_reducible apply fuseC
  · intro K' c'
    ((with_reducible show wpAny _ _ (setSlotAt _ 0 _) _ _ _); refine' h_slot0 ?D ?u ?f ?_; (case D => assumption); (case u => k_all); (case f => rfl); intro h' D')
    exact c' h' D'
  intro h' D'
  with_reducible apply fuseC
  · intro K' c'
    ((with_reducible show wpAny _ _ (setSlotAt _ 2 _) _ _ _); refine' h_slot2 ?D ?u ?f ?_; (case D => assumption); (case u => k_all); (case f => rfl); intro h' D')
    exact c' h' D'
  intro h' D'
  k_node
  with_reducible apply fuseC
  · intro K' c'
    ((with_reducible show wpAny _ _ (setSlotAt _ 3 _) _ _ _); refine' h_slot3 ?D ?u ?f ?_; (case D => assumption); (case u => k_all); (case f => rfl); intro h' D')
    exact c' h' D'
  intro h' D'
  with_reducible apply fuseC
  · intro K' c'
    k_node
    with_reducible apply fuse
    · intro K' c'
      k_node
      ((with_reducible show wpAny _ _ (Sem.load _ _ _) _ _ _); k_dflt (refine' h_new ?D ?m ?_); (case D => assumption); (case m => k_mem); (try dsimp only))
      exact nd_pure c'
    with_reducible apply fuse
    · intro K' c'
      first | (exact wpAny_pure c') | (k_node; exact wpAny_pure c') | (k_node; k_node; exact wpAny_pure c')
    k_node
    with_reducible apply fuseC
    · intro K' c'
      k_node
      ((with_reducible show wpAny _ _ (Sem.update _ _ (Obj.dropName _) _) _ _ _); (refine' h_drop ?D ?m ?e ?u ?_); (case D => assumption); (case m => k_mem); (case e => rfl); (case u => k_all); intro h' D')
      exact nd_pure (c' h' D')
    intro h' D'
    exact wpAny_pure (c' h' D')
  intro h' D'
  with_reducible apply fuse
  · intro K' c'
    k_node
    with_reducible apply fuse
    · intro K' c'
      k_node
      ((with_reducible show wpAny _ _ (Sem.load _ _ _) _ _ _); k_dflt (refine' h_new ?D ?m ?_); (case D => assumption); (case m => k_mem); (try dsimp only))
      exact nd_pure c'
    first | (exact wpAny_pure c') | (k_node; exact wpAny_pure c') | (k_node; k_node; exact wpAny_pure c')
  with_reducible apply fuse
  · intro K' c'
    ((with_reducible show wpAny _ _ (forIn _ _ _) _ _ _); first | with_reducible refine h_for_arr ?_ | with_reducible refine h_for_nil ?_ | with_reducible refine h_for_cons ?_ | (k_dflt (first | refine h_for_nil ?_ | refine h_for_cons ?_)))
    with_reducible apply fuse
    · intro K' c'
      k_node
      with_reducible apply fuse
      · intro K' c'
        k_node
        ((with_reducible show wpAny _ _ (Sem.load _ _ _) _ _ _); k_dflt (refine' h_new ?D ?m ?_); (case D => assumption); (case m => k_mem); (try dsimp only))
        exact nd_pure c'
      first | (exact wpAny_pure c') | (k_node; exact wpAny_pure c') | (k_node; k_node; exact wpAny_pure c')
    k_node
    k_node
    k_node
    ((with_reducible show wpAny _ _ (forIn _ _ _) _ _ _); first | with_reducible refine h_for_arr ?_ | with_reducible refine h_for_nil ?_ | with_reducible refine h_for_cons ?_ | (k_dflt (first | refine h_for_nil ?_ | refine h_for_cons ?_)))
    with_reducible apply fuse
    · intro K' c'
      k_node
      with_reducible apply fuse
      · intro K' c'
        k_node
        ((with_reducible show wpAny _ _ (Sem.load _ _ _) _ _ _); k_dflt (refine' h_new ?D ?m ?_); (case D => assumption); (case m => k_mem); (try dsimp only))
        exact nd_pure c'
      first | (exact wpAny_pure c') | (k_node; exact wpAny_pure c') | (k_node; k_node; exact wpAny_pure c')
    k_node
    k_node
    k_node
    ((with_reducible show wpAny _ _ (forIn _ _ _) _ _ _); first | with_reducible refine h_for_arr ?_ | with_reducible refine h_for_nil ?_ | with_reducible refine h_for_cons ?_ | (k_dflt (first | refine h_for_nil ?_ | refine h_for_cons ?_)))
    exact c'
  with_reducible apply fuse
  · intro K' c'
    k_node
    with_reducible apply fuse
    · intro K' c'
      k_node
      ((with_reducible show wpAny _ _ (Sem.load _ _ _) _ _ _); k_dflt (refine' h_new ?D ?m ?_); (case D => assumption); (case m => k_mem); (try dsimp only))
      exact nd_pure c'
    first | (exact wpAny_pure c') | (k_node; exact wpAny_pure c') | (k_node; k_node; exact wpAny_pure c')
  with_reducible apply fuse
  · intro K' c'
    k_node
    with_reducible apply fuse
    · intro K' c'
      k_node
      ((with_reducible show wpAny _ _ (Sem.load _ _ _) _ _ _); k_dflt (refine' h_new ?D ?m ?_); (case D => assumption); (case m => k_mem); (try dsimp only))
      exact nd_pure c'
    first | (exact wpAny_pure c') | (k_node; exact wpAny_pure c') | (k_node; k_node; exact wpAny_pure c')
  with_reducible apply fuse
  · intro K' c'
    k_node
    with_reducible apply fuse
    · intro K' c'
      k_node
      with_reducible apply fuse
      · intro K' c'
        first | (exact wpAny_pure c') | (k_node; exact wpAny_pure c') | (k_node; k_node; exact wpAny_pure c')
      with_reducible apply fuse
      · intro K' c'
        ((with_reducible show wpAny _ _ (forIn _ _ _) _ _ _); first | with_reducible refine h_for_arr ?_ | with_reducible refine h_for_nil ?_ | with_reducible refine h_for_cons ?_ | (k_dflt (first | refine h_for_nil ?_ | refine h_for_cons ?_)))
        with_reducible apply fuse
        · intro K' c'
          first | (exact wpAny_pure c') | (k_node; exact wpAny_pure c')
        first | (exact wpAny_pure c') | (k_node; exact wpAny_pure c') | (k_node; k_node; exact wpAny_pure c') | (k_node; k_node; k_node; exact wpAny_pure c')
      exact wpAny_pure c'
    first | (exact wpAny_pure c') | (k_node; exact wpAny_pure c')
  with_reducible apply fuse
  · intro K' c'
    k_node
    with_reducible apply fuse
    · intro K' c'
      k_node
      ((with_reducible show wpAny _ _ (List.mapM.loop _ _ _) _ _ _); k_dflt (first | refine h_ml_nil ?_ | refine h_ml_cons ?_))
      k_node
      k_node
      k_node
      k_node
      ((with_reducible show wpAny _ _ (List.mapM.loop _ _ _) _ _ _); k_dflt (first | refine h_ml_nil ?_ | refine h_ml_cons ?_))
      exact c'
    with_reducible apply fuse
    · intro K' c'
      ((with_reducible show wpAny _ _ (forIn _ _ _) _ _ _); first | with_reducible refine h_for_arr ?_ | with_reducible refine h_for_nil ?_ | with_reducible refine h_for_cons ?_ | (k_dflt (first | refine h_for_nil ?_ | refine h_for_cons ?_)))
      k_node
      k_node
      k_node
      k_node
      ((with_reducible show wpAny _ _ (forIn _ _ _) _ _ _); first | with_reducible refine h_for_arr ?_ | with_reducible refine h_for_nil ?_ | with_reducible refine h_for_cons ?_ | (k_dflt (first | refine h_for_nil ?_ | refine h_for_cons ?_)))
      exact c'
    first | (exact wpAny_pure c') | (k_node; exact wpAny_pure c')
  with_reducible apply fuse
  · intro K' c'
    exact wpAny_pure c'
  with_reducible apply fuse
  · intro K' c'
    ((with_reducible show wpAny _ _ (List.anyM _ _) _ _ _); refine h_anyF rfl (congrArg pure nodel_obj) ?_)
    exact c'
  with_reducible apply fuseC
  · intro K' c'
    k_node
    with_reducible apply fuse
    · intro K' c'
      k_node
      ((with_reducible show wpAny _ _ (Sem.load _ _ _) _ _ _); k_dflt (refine' h_new ?D ?m ?_); (case D => assumption); (case m => k_mem); (try dsimp only))
      exact nd_pure c'
    with_reducible apply fuseC
    · intro K' c'
      k_node
      ((with_reducible show wpAny _ _ (Sem.update _ _ (Obj.mapCls _) _) _ _ _); (refine' h_cls ?D ?u ?_); (case D => assumption); (case u => k_all); intro h' D'; (try dsimp only at D'))
      exact nd_pure (c' h' D')
    intro h' D'
    k_node
    with_reducible apply fuse
    · intro K' c'
      k_node
      ((with_reducible show wpAny _ _ (Sem.load _ _ _) _ _ _); k_dflt (refine' h_new ?D ?m ?_); (case D => assumption); (case m => k_mem); (try dsimp only))
      exact nd_pure c'
    first | (exact wpAny_pure (c' h' D')) | (k_node; exact wpAny_pure (c' h' D'))
  intro h' D'
  with_reducible apply fuse
  · intro K' c'
    ((with_reducible show wpAny _ _ (Bind.madeBy _) _ _ _); k_dflt (refine wpAny_of_eq made_obj ?_))
    exact c'
  with_reducible apply fuseC
  · intro K' c'
    ((with_reducible show wpAny _ _ (setSlotAt _ 4 _) _ _ _); refine' h_slot4 ?D ?u ?f ?_; (case D => assumption); (case u => k_all); (case f => rfl); intro h' D')
    exact c' h' D'
  intro h' D'
  with_reducible apply fuse
  · intro K' c'
    k_node
    with_reducible apply fuse
    · intro K' c'
      k_node
      with_reducible apply fuse
      · intro K' c'
        k_node
        ((with_reducible show wpAny _ _ (Sem.load _ _ _) _ _ _); k_dflt (refine' h_new ?D ?m ?_); (case D => assumption); (case m => k_mem); (try dsimp only))
        exact nd_pure c'
      exact wpAny_pure c'
    k_node
    with_reducible apply fuse
    · intro K' c'
      k_node
      with_reducible apply fuse
      · intro K' c'
        k_node
        with_reducible apply fuse
        · intro K' c'
          k_node
          with_reducible apply fuse
          · intro K' c'
            k_node
            ((with_reducible show wpAny _ _ (Sem.load _ _ _) _ _ _); k_dflt (refine' h_new ?D ?m ?_); (case D => assumption); (case m => k_mem); (try dsimp only))
            exact nd_pure c'
          exact wpAny_pure c'
        exact wpAny_pure c'
      with_reducible apply fuse
      · intro K' c'
        ((with_reducible show wpAny _ _ (forIn _ _ _) _ _ _); first | with_reducible refine h_for_arr ?_ | with_reducible refine h_for_nil ?_ | with_reducible refine h_for_cons ?_ | (k_dflt (first | refine h_for_nil ?_ | refine h_for_cons ?_)))
        with_reducible apply fuse
        · intro K' c'
          k_node
          with_reducible apply fuse
          · intro K' c'
            k_node
            with_reducible apply fuse
            · intro K' c'
              k_node
              ((with_reducible show wpAny _ _ (Sem.load _ _ _) _ _ _); k_dflt (refine' h_new ?D ?m ?_); (case D => assumption); (case m => k_mem); (try dsimp only))
              exact nd_pure c'
            exact wpAny_pure c'
          k_node
          with_reducible apply fuse
          · intro K' c'
            k_node
            ((with_reducible show wpAny _ _ (Sem.load _ _ _) _ _ _); k_dflt (refine' h_new ?D ?m ?_); (case D => assumption); (case m => k_mem); (try dsimp only))
            exact nd_pure c'
          first | (exact wpAny_pure c') | (k_node; exact wpAny_pure c') | (k_node; k_node; exact wpAny_pure c')
        k_node
        k_node
        k_node
        ((with_reducible show wpAny _ _ (forIn _ _ _) _ _ _); first | with_reducible refine h_for_arr ?_ | with_reducible refine h_for_nil ?_ | with_reducible refine h_for_cons ?_ | (k_dflt (first | refine h_for_nil ?_ | refine h_for_cons ?_)))
        with_reducible apply fuse
        · intro K' c'
          first | (exact wpAny_pure c') | (k_node; exact wpAny_pure c')
        first | (exact wpAny_pure c') | (k_node; exact wpAny_pure c') | (k_node; k_node; exact wpAny_pure c') | (k_node; k_node; k_node; exact wpAny_pure c')
      exact wpAny_pure c'
    k_node
    (rw [if_neg (by decide +kernel)])
    exact wpAny_pure c'
  (with_reducible refine k_bind ?_; intro K' c')
  k_node
  (with_reducible refine k_bind ?_; intro K' c')
  ((with_reducible show wpAny _ _ (forIn _ _ _) _ _ _); first | with_reducible refine h_for_arr ?_ | with_reducible refine h_for_nil ?_ | with_reducible refine h_for_cons ?_ | (k_dflt (first | refine h_for_nil ?_ | refine h_for_cons ?_)))
  with_reducible apply fuse
  · intro K' c'
    k_node
    with_reducible apply fuse
    · intro K' c'
      k_node
      ((with_reducible show wpAny _ _ (Sem.load _ _ _) _ _ _); k_dflt (refine' h_new ?D ?m ?_); (case D => assumption); (case m => k_mem); (try dsimp only))
      exact nd_pure c'
    first | (exact wpAny_pure c') | (k_node; exact wpAny_pure c') | (k_node; k_node; exact wpAny_pure c')
  k_node
  with_reducible apply fuse
  · intro K' c'
    k_node
    k_node
    with_reducible apply fuse
    · intro K' c'
      k_node
      with_reducible refine h_fresh ?_
      exact nd_pure c'
    exact wpAny_pure c'
  with_reducible apply fuseA
  · intro K' c'
    k_node
    k_node
    k_node
    k_node
    k_node
    k_node
    with_reducible apply fuseA
    · intro K' c'
      k_node
      (with_reducible refine h_alloc (by assumption) rfl ?_; intro a' h' D')
      exact nd_pure (c' a' h' D')
    intro a' h' D'
    exact wpAny_pure (c' a' h' D')
  intro a' h' D'
  with_reducible apply fuseC
  · intro K' c'
    k_node
    with_reducible apply fuse
    · intro K' c'
      k_node
      ((with_reducible show wpAny _ _ (Sem.load _ _ _) _ _ _); k_dflt (refine' h_new ?D ?m ?_); (case D => assumption); (case m => k_mem); (try dsimp only))
      exact nd_pure c'
    k_node
    k_node
    ((with_reducible show wpAny _ _ (nsSet _ _ _) _ _ _); k_dflt (refine' h_nsSet ?D ?m ?k ?e ?u ?_); (case D => assumption); (case m => k_mem); (case k => rfl); (case e => k_put); (case u => k_all); intro h' D')
    exact c' h' D'
  intro h' D'
  k_node
  k_node
  ((with_reducible show wpAny _ _ (forIn _ _ _) _ _ _); first | with_reducible refine h_for_arr ?_ | with_reducible refine h_for_nil ?_ | with_reducible refine h_for_cons ?_ | (k_dflt (first | refine h_for_nil ?_ | refine h_for_cons ?_)))
  (with_reducible refine k_ret (by assumption) ?_)
  with_reducible apply fuse
  · intro K' c'
    ((with_reducible show wpAny _ _ (forIn _ _ _) _ _ _); first | with_reducible refine h_for_arr ?_ | with_reducible refine h_for_nil ?_ | with_reducible refine h_for_cons ?_ | (k_dflt (first | refine h_for_nil ?_ | refine h_for_cons ?_)))
    with_reducible apply fuse
    · intro K' c'
      first | (exact wpAny_pure c') | (k_node; exact wpAny_pure c')
    k_node
    k_node
    k_node
    ((with_reducible show wpAny _ _ (forIn _ _ _) _ _ _); first | with_reducible refine h_for_arr ?_ | with_reducible refine h_for_nil ?_ | with_reducible refine h_for_cons ?_ | (k_dflt (first | refine h_for_nil ?_ | refine h_for_cons ?_)))
    exact c'
  k_node
  k_node
  k_node
  k_node
  with_reducible apply fuse
  · intro K' c'
    k_node
    ((with_reducible show wpAny _ _ (Sem.load _ _ _) _ _ _); k_dflt (refine' h_new ?D ?m ?_); (case D => assumption); (case m => k_mem); (try dsimp only))
    exact nd_pure c'
  with_reducible apply fuseC
  · intro K' c'
    k_node
    ((with_reducible show wpAny _ _ (Sem.update _ _ (Obj.mapCls _) _) _ _ _); (refine' h_cls ?D ?u ?_); (case D => assumption); (case u => k_all); intro h' D'; (try dsimp only at D'))
    exact nd_pure (c' h' D')
  intro h' D'
  k_node
  with_reducible apply fuse
  · intro K' c'
    k_node
    ((with_reducible show wpAny _ _ (Sem.load _ _ _) _ _ _); k_dflt (refine' h_new ?D ?m ?_); (case D => assumption); (case m => k_mem); (try dsimp only))
    exact nd_pure c'
  k_node
  (with_reducible refine k_pure (by assumption) ?_)
  with_reducible apply fuse
  · intro K' c'
    k_node
    with_reducible apply fuse
    · intro K' c'
      first | (exact wpAny_pure c') | (k_node; exact wpAny_pure c') | (k_node; k_node; exact wpAny_pure c')
    k_node
    k_node
    with_reducible apply fuse
    · intro K' c'
      ((with_reducible show wpAny _ _ (typeLookup (Value.type _) _) _ _ _); first | refine wpAny_of_eq tl_dict_iter ?_ | refine wpAny_of_eq tl_str_sn ?_ | refine wpAny_of_eq tl_function_sn ?_ | refine wpAny_of_eq tl_list_sn ?_ | refine wpAny_of_eq tl_tuple_sn ?_ | refine wpAny_of_eq tl_NoneType_sn ?_ | refine wpAny_of_eq tl_member_descriptor_sn ?_ | refine wpAny_of_eq tl_int_sn ?_)
      exact c'
    first | (exact wpAny_pure c') | (k_node; exact wpAny_pure c')
  with_reducible apply fuseC
  · intro K' c'
    ((with_reducible show wpAny _ _ (setSlotAt _ 5 _) _ _ _); refine' h_slot5 ?D ?u ?f ?_; (case D => assumption); (case u => k_all); (case f => rfl); intro h' D')
    exact c' h' D'
  intro h' D'
  k_node
  k_node
  k_node
  k_node
  with_reducible apply fuse
  · intro K' c'
    k_node
    with_reducible apply fuse
    · intro K' c'
      k_node
      ((with_reducible show wpAny _ _ (Sem.load _ _ _) _ _ _); k_dflt (refine' h_new ?D ?m ?_); (case D => assumption); (case m => k_mem); (try dsimp only))
      exact nd_pure c'
    first | (exact wpAny_pure c') | (k_node; exact wpAny_pure c') | (k_node; k_node; exact wpAny_pure c')
  k_node
  k_node
  with_reducible apply fuseC
  · intro K' c'
    ((with_reducible show wpAny _ _ (nsSet _ _ _) _ _ _); k_dflt (refine' h_nsSet ?D ?m ?k ?e ?u ?_); (case D => assumption); (case m => k_mem); (case k => rfl); (case e => k_put); (case u => k_all); intro h' D')
    exact c' h' D'
  intro h' D'
  with_reducible apply fuse
  · intro K' c'
    k_node
    with_reducible apply fuse
    · intro K' c'
      k_node
      ((with_reducible show wpAny _ _ (Sem.load _ _ _) _ _ _); k_dflt (refine' h_new ?D ?m ?_); (case D => assumption); (case m => k_mem); (try dsimp only))
      exact nd_pure c'
    first | (exact wpAny_pure c') | (k_node; exact wpAny_pure c') | (k_node; k_node; exact wpAny_pure c')
  k_node
  k_node
  with_reducible apply fuse
  · intro K' c'
    k_node
    with_reducible apply fuse
    · intro K' c'
      k_node
      ((with_reducible show wpAny _ _ (Sem.load _ _ _) _ _ _); k_dflt (refine' h_new ?D ?m ?_); (case D => assumption); (case m => k_mem); (try dsimp only))
      exact nd_pure c'
    first | (exact wpAny_pure c') | (k_node; exact wpAny_pure c') | (k_node; k_node; exact wpAny_pure c')
  k_node
  with_reducible apply fuse
  · intro K' c'
    ((with_reducible show wpAny _ _ (forIn _ _ _) _ _ _); first | with_reducible refine h_for_arr ?_ | with_reducible refine h_for_nil ?_ | with_reducible refine h_for_cons ?_ | (k_dflt (first | refine h_for_nil ?_ | refine h_for_cons ?_)))
    with_reducible apply fuse
    · intro K' c'
      first | (exact wpAny_pure c') | (k_node; exact wpAny_pure c') | (k_node; k_node; exact wpAny_pure c')
    k_node
    k_node
    ((with_reducible show wpAny _ _ (forIn _ _ _) _ _ _); first | with_reducible refine h_for_arr ?_ | with_reducible refine h_for_nil ?_ | with_reducible refine h_for_cons ?_ | (k_dflt (first | refine h_for_nil ?_ | refine h_for_cons ?_)))
    exact c'
  (with_reducible refine k_bind ?_; intro K' c')
  ((with_reducible show wpAny _ _ (Sem.tryCatch _ _) _ _ _); refine k_try ?_; intro E')
  with_reducible refine wpAny_holding ?_
  with_reducible apply fuse
  · intro K' c'
    k_node
    with_reducible apply fuse
    · intro K' c'
      k_node
      ((with_reducible show wpAny _ _ (Sem.load _ _ _) _ _ _); k_dflt (refine' h_new ?D ?m ?_); (case D => assumption); (case m => k_mem); (try dsimp only))
      exact nd_pure c'
    exact wpAny_pure c'
  with_reducible apply fuse
  · intro K' c'
    ((with_reducible show wpAny _ _ (forIn _ _ _) _ _ _); first | with_reducible refine h_for_arr ?_ | with_reducible refine h_for_nil ?_ | with_reducible refine h_for_cons ?_ | (k_dflt (first | refine h_for_nil ?_ | refine h_for_cons ?_)))
    refine h_for_P (P := fun e => ∃ x t, e.key = .str x t) ?hP1 (fun e he Q' q' => ?_) ?_
    case hP1 => (repeat refine List.forall_mem_cons.mpr ⟨⟨_, _, rfl⟩, ?_⟩); exact List.forall_mem_nil _
    · obtain ⟨hsh, key, val⟩ := e
      obtain ⟨x, tx, hk⟩ := he
      dsimp only at hk
      subst hk
      refine wpAny_bind ?_
      show wpAny _ _ (pure (some x)) _ _ _
      refine wpAny_pure ?_
      rw [if_neg (by exact Bool.false_ne_true)]
      exact wpAny_pure q'
    exact c'
  k_node
  k_node
  with_reducible apply fuse
  · intro K' c'
    k_node
    with_reducible apply fuse
    · intro K' c'
      k_node
      ((with_reducible show wpAny _ _ (Sem.load _ _ _) _ _ _); k_dflt (refine' h_new ?D ?m ?_); (case D => assumption); (case m => k_mem); (try dsimp only))
      exact nd_pure c'
    exact wpAny_pure c'
  with_reducible apply fuse
  · intro K' c'
    ((with_reducible show wpAny _ _ (forIn _ _ _) _ _ _); first | with_reducible refine h_for_arr ?_ | with_reducible refine h_for_nil ?_ | with_reducible refine h_for_cons ?_ | (k_dflt (first | refine h_for_nil ?_ | refine h_for_cons ?_)))
    refine h_hooks (by assumption) ?hP2 (fun e hl hs Q' q' => ?_) ?_
    case hP2 =>
      (repeat (refine List.forall_mem_cons.mpr ⟨⟨by rfl, ?_⟩, ?_⟩; first
        | exact .inl ⟨_, rfl, tl_str_sn⟩ | exact .inl ⟨_, rfl, tl_int_sn⟩ | exact .inl ⟨_, rfl, tl_NoneType_sn⟩
        | exact .inr ⟨_, _, _, rfl, (by k_mem), rfl, tl_function_sn⟩ | exact .inr ⟨_, _, _, rfl, (by k_mem), rfl, tl_list_sn⟩ | exact .inr ⟨_, _, _, rfl, (by k_mem), rfl, tl_tuple_sn⟩ | exact .inr ⟨_, _, _, rfl, (by k_mem), rfl, tl_member_descriptor_sn⟩))
      exact List.forall_mem_nil _
    · rw [if_neg (by rw [hl]; exact Bool.false_ne_true)]
      refine wpAny_bind (hs _ ?_)
      exact wpAny_pure q'
    exact c'
  (with_reducible refine k_bind ?_; intro K' c')
  k_node
  k_node
  (with_reducible refine k_bind ?_; intro K' c')
  k_node
  ((with_reducible show wpAny _ _ (Sem.call (Code.call (Value.type _) _) _ _ _ _) _ _ _); (refine' h_call (super_x ?hm9 ?q9 ?_); (case q9 => refine' Mm.get ?D ?m; (case D => assumption); (case m => k_mem)); (case hm9 => rfl)); intro q' h' Dq'; have D' := Mm.trans (by assumption) Dq'; dsimp only [List.cons_append, List.nil_append] at D')
  (with_reducible refine k_pure' (by assumption) ?_)
  (with_reducible refine k_pure (by assumption) ?_)
  (with_reducible refine k_bind ?_; intro K' c')
  with_reducible refine wpAny_holding ?_
  ((with_reducible show wpAny _ _ (getAttr (Value.ref _) _) _ _ _); (refine' super_getAttr ?D ?so ?C ?m ?no ?_; (case D => assumption); (case so => k_mem); (case C => k_mem); (case m => rfl); (case no => exact looks_opaque (inOf (by assumption) (by assumption)) (by kernel_rfl)); (try dsimp only)); intro q' h' t' D')
  (with_reducible refine k_ret (by assumption) ?_)
  (with_reducible refine k_bind ?_; intro K' c')
  k_node
  k_node
  (with_reducible refine k_bind ?_; intro K' c')
  k_node
  ((with_reducible show wpAny _ _ (Sem.call (Code.call (Value.ref _) _) _ _ _ _) _ _ _); (refine' x_call (initsub_call ?qn ?K ?q ?_) ?nb; (case nb => (intro h; cases h)); (case q => refine' Mm.get ?D ?m; (case D => assumption); (case m => k_mem)); (case K => refine' Mm.get ?D ?m; (case D => assumption); (case m => k_mem)); (case qn => rfl)))
  (with_reducible refine k_pure' (by assumption) ?_)
  (with_reducible refine k_pure (by assumption) ?_)
  k_node
  k_node
  (with_reducible refine k_ret (by assumption) ?_)
  k_node
  k_node
  k_node
  rename Mm _ _ _ => DD
  exact fin _ _ _ _ t (t + 1) (t + 1 + 1) _ _ (Mm.put3 (DD.drop1.drop1) (by kernel_rfl) (by kernel_rfl) (by kernel_rfl))
end
end Mine
end

section
open PySem PySem.W PyProof.Rows
namespace Mine
local macro_rules | `(tactic| walk_at "no goal") => `(tactic| skip)
theorem freshG6b : True ∧ True := by
  k_with_none
  w_top off
  first | (walk1; done) | exact ⟨trivial, trivial⟩
end Mine
end

/-! part G6b -/
section
open PySem PySem.W PySem.W.X PyProof.Rows PySem.Calls
set_option maxRecDepth 100000
set_option maxHeartbeats 4000000
namespace Mine
/-- some objects of the ledger, in another order -/
theorem Mm.pick {P : Addr → Obj → Prop} {h : Heap} {news out : List (Addr × Obj)} (D : Mm P h news) (is : List Nat) (nd : is.Nodup) (e : is.filterMap (fun i => news[i]?) = out) : Mm P h out := by
  subst e
  have key : ∀ {p : Addr × Obj}, p ∈ is.filterMap (fun i => news[i]?) → p ∈ news := fun hp => by
    obtain ⟨i, _, hi⟩ := List.mem_filterMap.mp hp
    exact List.mem_of_getElem? hi
  refine ⟨D.keep, fun p hp => D.nw p (key hp), fun p hp => D.ap p (key hp), ?_⟩
  clear key
  induction is with
  | nil => exact List.nodup_nil
  | cons i r ih =>
    obtain ⟨hi, hr⟩ := List.nodup_cons.mp nd
    rw [List.filterMap_cons]
    cases q : news[i]? with
    | none => exact ih hr
    | some p =>
      rw [List.map_cons, List.nodup_cons]
      refine ⟨fun hm => ?_, ih hr⟩
      obtain ⟨p', hp', e⟩ := List.mem_map.mp hm
      obtain ⟨j, hj, hjp⟩ := List.mem_filterMap.mp hp'
      obtain ⟨hil, hie⟩ := List.getElem?_eq_some_iff.mp q
      obtain ⟨hjl, hje⟩ := List.getElem?_eq_some_iff.mp hjp
      have e2 : (news.map (·.1))[j]'(by simpa using hjl) = (news.map (·.1))[i]'(by simpa using hil) := by simp [hie, hje, e]
      have := (List.getElem_inj D.nd).mp e2
      exact hi (this ▸ hj)
theorem Mm.put1 {P : Addr → Obj → Prop} {h : Heap} {l : List (Addr × Obj)} {a : Addr} {x x' : Obj} (D : Mm P h ((a, x) :: l)) (e : x = x') : Mm P h ((a, x') :: l) := by subst e; exact D
theorem k_open {α β : Type} {M : Model} {A : Around} {E : Value → Shared → Prop} {Q : β → Shared → Prop} {f : α → Sem β} {t : Sem α} {s : Shared} {K : α → Shared → Prop} (c : Cont M A E f Q K) (q : wpAny M A t (fun a s' => wpAny M A (f a) Q E s') E s) : wpAny M A t K E s := wpAny_mono q (fun a s' h => c a s' h) fun _ _ e => e
theorem x_callE {α : Type} {prog : Program} {w : World} {A : Around} {E : Value → Shared → Prop} {s : Shared} {Q : α → Shared → Prop} {c c' : Code} {hd : Option Value} {g : Bool} {l : List Value} {k : Result → Sem α} (e : c = c') (hc : codeAny (model prog w) (A.mark hd) c' (fun r s' => wpAny (model prog w) A (k r) Q E s') s) (hnb : hd ≠ some byPass) :
    wpAny (model prog w) A (.call c hd g l k) Q E s := by subst e; exact x_call hc hnb
end Mine
end

section
open PySem PySem.W PyProof.Rows
namespace Mine
local macro_rules | `(tactic| walk_at "no goal") => `(tactic| skip)
theorem freshK1 : True ∧ True := by
  k_with_none
  w_top off
  first | (walk1; done) | exact ⟨trivial, trivial⟩
end Mine
end

/-! part K1 -/
section
open PySem PySem.W PySem.W.X PyProof.Rows PySem.Calls
set_option maxRecDepth 100000
set_option maxHeartbeats 4000000
namespace Mine
abbrev KQD : Str := Str.ofString "cmp_to_key.<locals>.K."
structure KD where
  ns2 : Addr
  md : Addr
  bt : Addr
  f2 : Addr
  f3 : Addr
  f4 : Addr
  f5 : Addr
  f6 : Addr
  f7 : Addr
  sl : Addr
  sa : Addr
  c2 : Addr
  c3 : Addr
  cl : Addr
  ns : Addr
  fr : Addr
  cc : Addr
  hh1 : Int
  hh3 : Int
  t1 : Tok
  t3 : Tok
  u1 : Tok
  u2 : Tok
  w2 : Tok
  w3 : Tok
  w4 : Tok
  w5 : Tok
  w6 : Tok
  w7 : Tok
  u3 : Tok
  u5 : Tok
  t8 : Tok
  t9 : Tok
  tn : Tok
  tv : Tok
  tm : Tok
  v3 : Value
  d2 : Value
  d3 : Value
  p2 : Value
  p3 : Value
  ct2 : Value
  ct3 : Value
  ocl : Obj
/-- the class K that cmp_to_key makes stands at K, its mycmp is lam -/
def KIs (w : World) (h : Heap) (K lam : Addr) : Prop :=
  ∃ k : KD,
    h.get? K = some (kObjC K k.ns2 k.bt k.tn k.tv) ∧ h.get? k.ns2 = some (dictOf (kNs w k.hh1 k.hh3 k.t1 k.t3 k.u1 k.u2 k.w2 k.w3 k.w4 k.w5 k.w6 k.w7 k.u3 k.u5 k.t8 k.t9 k.v3 k.sl k.sa k.f2 k.f3 k.f4 k.f5 k.f6 k.f7 k.md) 3) ∧ h.get? k.md = some (mdObj K k.tm) ∧
    h.get? k.f2 = some (fnO w 2 [] k.ns k.fr k.cc k.cl KQD k.d2 k.p2 k.c2 k.ct2) ∧ h.get? k.f3 = some (fnO w 3 [(Str.ofString "mycmp", k.cl)] k.ns k.fr k.cc k.cl KQD k.d3 k.p3 k.c3 k.ct3) ∧
    (∃ o vs t, h.get? k.c2 = some o ∧ (o.data = .fields vs ∧ o.cls = .type "code") ∧ vs[1]? = some (.str (qlO w 2 k.ns k.fr k.cc k.cl KQD) t)) ∧ h.CodeRec (.ref k.c3) (qlO w 3 k.ns k.fr k.cc k.cl KQD) ∧ h.get? k.cl = some k.ocl ∧ k.ocl.data = .cell (some (.ref lam))
theorem KIs.keeps {w : World} {h h' : Heap} {K lam : Addr} (x : KIs w h K lam) (k : Stays h h') : KIs w h' K lam :=
  Exists.elim x fun q a => ⟨q, k _ _ a.1, k _ _ a.2.1, k _ _ a.2.2.1, k _ _ a.2.2.2.1, k _ _ a.2.2.2.2.1,
    Exists.elim a.2.2.2.2.2.1 fun o b => Exists.elim b fun vs c => Exists.elim c fun t d => ⟨o, vs, t, k _ _ d.1, d.2⟩, a.2.2.2.2.2.2.1.keeps k, k _ _ a.2.2.2.2.2.2.2.1, a.2.2.2.2.2.2.2.2⟩
theorem mm_back {P0 : Addr → Obj → Prop} {g' h' h3 : Heap} {L' : Addr} {m' : Str → Option Value} {news : List (Addr × Obj)} (F' : Fr g' L' h' m') (hP : ∀ b o, P0 b o ↔ (h'.get? b = some o ∧ b ≠ 107)) (h107 : g'.get? 107 = none) (h107L : (107 : Addr) ≠ L') (D : Mm P0 h3 news) : Fr g' L' h3 m' ∧ News g' L' h3 news := by
  obtain ⟨oL, es, ep, hL, r⟩ := F'.ns
  have pL : P0 L' oL := (hP _ _).mpr ⟨hL, h107L.symm⟩
  have pg : ∀ b o, g'.get? b = some o → P0 b o := fun b o e => (hP _ _).mpr ⟨F'.keep b o e, fun q => by subst q; rw [h107] at e; cases e⟩
  refine ⟨⟨⟨oL, es, ep, D.keep _ _ pL, r⟩, fun b o e => D.keep _ _ (pg b o e), F'.above⟩, fun p hp => ⟨D.nw p hp, fun e => D.ap p hp oL (e ▸ pL), ?_⟩⟩
  cases q : g'.get? p.1 with
  | none => rfl
  | some o => exact absurd (pg _ _ q) (D.ap p hp o)
/-- what stands below the class statement -/
theorem stand_of {w : World} {pp : Program} {loose : List Str} {mean : ExcName → Option Value} {mg mb : Str → Option Value} {P0 : Addr → Obj → Prop} {g' h' : Heap} {L' : Addr} {m' : Str → Option Value} (F' : Fr g' L' h' m') (T' : Top pp loose mean mg mb g') (KB : (Kbig w.params).In g') (hP : ∀ b o, P0 b o ↔ (h'.get? b = some o ∧ b ≠ 107)) (h107 : g'.get? 107 = none) :
    Stand w pp loose mean mg mb P0 ∧ NoLim P0 := by
  have pg : ∀ b o, g'.get? b = some o → P0 b o := fun b o e => (hP _ _).mpr ⟨F'.keep b o e, fun q => by subst q; rw [h107] at e; cases e⟩
  have kb : ∀ b o, (Kbig w.params).lookup b = some o → P0 b o := fun b o e => pg _ _ (KB b o e)
  obtain ⟨o1, ho1⟩ : ∃ o, (Kbig w.params).lookup 1 = some o := Option.isSome_iff_exists.mp (by kernel_rfl)
  refine ⟨⟨fun h news D => T'.keeps fun b o e => D.keep _ _ (pg b o e), kb, ⟨o1, kb 1 o1 ho1⟩, ?_, ?_⟩, fun h news D => T'.nolimit.keeps fun b o e => D.keep _ _ (pg b o e)⟩
  · obtain ⟨o, _, _, e, _⟩ := T'.g
    exact ⟨o, pg _ _ e⟩
  · obtain ⟨bm, ob, b1, b2, b3, b4, b5, b6⟩ := T'.bmain
    refine ⟨bm, ob, b1, b2, ?_, pg _ _ b3, b4, b5, b6⟩
    intro e
    obtain ⟨o, es, ep, e2, e3, _⟩ := T'.g
    rw [← e, b3] at e2
    cases e2
    rw [b6] at e3
    first | cases e3 | exact absurd e3 (by simp)
end Mine
end

section
open PySem PySem.W PyProof.Rows
namespace Mine
local macro_rules | `(tactic| walk_at "no goal") => `(tactic| skip)
theorem freshF2 : True ∧ True := by
  k_with_none
  w_top off
  first | (walk1; done) | exact ⟨trivial, trivial⟩
end Mine
end

/-! part F2 -/
section
open PySem PySem.W PySem.W.X PyProof.Rows PySem.Calls
set_option maxRecDepth 100000
set_option maxHeartbeats 4000000
namespace Mine
local macro_rules | `(tactic| k_room) => `(tactic| ((try simp only [depth_under_make, depth_under_kw, depth_in1, depth_deeper, depth_caller]); first | decide | (have : recursionLimit = 1000 := by decide
                                                                                                                                                                 omega)))
local macro_rules | `(tactic| k_all) => `(tactic| first | apply Turn.head | (apply Turn.tail; k_all))
section
variable {w : World} {base h₀ : Heap} {e : Env} {E : Value → Shared → Prop} {s : Shared} {L lam : Addr} {m mg mb : Str → Option Value} {pp : Program} {loose : List Str} {mean : ExcName → Option Value} {Q : Value → Shared → Prop}
theorem cmp_K
    (B : Below callerA base [] h₀) (F : Fr h₀ L s.heap m) (KX : (hd.heap_1 w.params).In h₀) (KB : (Kbig w.params).In h₀) (N : News h₀ L s.heap [(107, tabObj #[])]) (T : Top pp loose mean mg mb h₀)
    (hf : e.frame = some L) (hke : e.scope.kind = .function)
    (h : ∀ K h' tk tb, StaysBut [(107, tabObj #[])] s.heap h' → h'.get? 107 = some (tabObj tb) → KIs w h' K lam → Q (.ref K) { s with heap := h', toks := tk }) :
    wpAny (model PySem.Challenge.pw_qw0044_01 w) (callerA.deeper e) (PySem.call (.ref 112) [.ref lam]) Q E s := by
  revert KX
  have h0 : PySem.Challenge.rw_qw0044_01.Holds ∨ True := .inr trivial
  revert h0
  k_fill
  intro h0 KX
  clear h0
  refine wpAny_call ?_
  refine' enter_PC B F KX N T ?hA hf hke ?k6 ?k7 ?k8 ?k9 ?kB ?kC ?_ ?c2 ?c3 ?c4
  case hA => rfl
  case k6 => k_is
  case k7 => k_is
  case k8 => k_room
  case k9 => exact BindsTo.of_eq rfl
  case kB => rfl
  case kC => decide
  case c2 => rfl
  case c3 => rfl
  case c4 => rfl
  intro g' L' h' tk' cells kb FG' F' N' Y' B' X' T' l1
  k_cells Y'
  (try simp only [List.cons_append, List.nil_append] at N')
  (try dsimp only)
  (try k_lift B')
  k_steps
  have h107 : g'.get? 107 = none := (N' (107, tabObj #[]) (by k_mem)).2.2
  have h107L : (107 : Addr) ≠ L' := (N' (107, tabObj #[]) (by k_mem)).2.1
  have KBg : (Kbig w.params).In g' := fun b o e => FG'.keep _ _ (KB b o e)
  let P0 : Addr → Obj → Prop := fun b o => h'.get? b = some o ∧ b ≠ 107
  have hP : ∀ b o, P0 b o ↔ (h'.get? b = some o ∧ b ≠ 107) := fun _ _ => Iff.rfl
  clear_value P0
  obtain ⟨hST, hNL⟩ := stand_of F' T' KBg hP h107
  have pg : ∀ b o, g'.get? b = some o → P0 b o := fun b o e => (hP _ _).mpr ⟨F'.keep b o e, fun q => by subst q; rw [h107] at e; cases e⟩
  have KP : ∀ b o, (Kbig w.params).lookup b = some o → P0 b o := hST.kb
  have D0 : Mm P0 h' [(107, tabObj #[])] := ⟨fun b o x => ((hP _ _).mp x).1, fun p hp => by rw [List.mem_singleton.mp hp]; exact (N' (107, tabObj #[]) (by k_mem)).1, fun p hp o x => by rw [List.mem_singleton.mp hp] at x; exact ((hP _ _).mp x).2 rfl, by simp⟩
  obtain ⟨o1, hs1⟩ := hST.s1
  have p111 : P0 111 o111 := pg _ _ (X' 111 _ (by kernel_rfl))
  have p4 : P0 4 ⟨.type "module", some 0, .plain, #[]⟩ := KP 4 _ (by kernel_rfl)
  obtain ⟨tnm, hnm⟩ := lk_nm w.params
  have hLN : LkName w P0 (.str (Str.ofString "law_qw0044_01") tnm) := fun h news D => looks_nsIn (fun b o e => D.keep _ _ (pg _ _ (X' b o e))) hnm
  dsimp only [envOfC]
  ((fail_if_success (with_reducible show wpAny _ _ (storeName _ (Str.ofString "K") _) _ _ _)); (fail_if_success (with_reducible show wpAny _ _ (execs _ _) _ _ _)); k_node)
  with_reducible apply fuse
  · intro K' c'
    first | (exact wpAny_pure c') | (k_node; exact wpAny_pure c')
  with_reducible apply fuse
  · intro K' c'
    with_reducible refine wpAny_standAt ?_
    exact c'
  with_reducible apply fuse
  · intro K' c'
    ((fail_if_success (with_reducible show wpAny _ _ (storeName _ (Str.ofString "K") _) _ _ _)); (fail_if_success (with_reducible show wpAny _ _ (execs _ _) _ _ _)); k_node)
    with_reducible apply fuse
    · intro K' c'
      ((with_reducible show wpAny _ _ (nsGet _ _) _ _ _); k_dflt (first | refine (lk_build (inOf (by assumption) (by assumption))).at ?_ | refine (lk_obj1 (inOf (by assumption) (by assumption))).at ?_ | refine (lk_obj2 (inOf (by assumption) (by assumption))).at ?_ | refine (lk_b (inOf (by assumption) (by assumption))).at ?_ | refine (LkName.at (by assumption) (by assumption)) ?_))
      exact c'
    first | (exact wpAny_pure c') | (k_node; exact wpAny_pure c')
  (with_reducible refine k_bind ?_; intro K' c')
  with_reducible refine wpAny_holding ?_
  with_reducible apply fuse
  · intro K' c'
    ((fail_if_success (with_reducible show wpAny _ _ (storeName _ (Str.ofString "K") _) _ _ _)); (fail_if_success (with_reducible show wpAny _ _ (execs _ _) _ _ _)); k_node)
    with_reducible apply fuse
    · intro K' c'
      ((fail_if_success (with_reducible show wpAny _ _ (storeName _ (Str.ofString "K") _) _ _ _)); (fail_if_success (with_reducible show wpAny _ _ (execs _ _) _ _ _)); k_node)
      with_reducible apply fuse
      · intro K' c'
        ((fail_if_success (with_reducible show wpAny _ _ (storeName _ (Str.ofString "K") _) _ _ _)); (fail_if_success (with_reducible show wpAny _ _ (execs _ _) _ _ _)); k_node)
        ((fail_if_success (with_reducible show wpAny _ _ (storeName _ (Str.ofString "K") _) _ _ _)); (fail_if_success (with_reducible show wpAny _ _ (execs _ _) _ _ _)); k_node)
        with_reducible apply fuse
        · intro K' c'
          with_reducible refine wpAny_standAt ?_
          exact c'
        ((fail_if_success (with_reducible show wpAny _ _ (storeName _ (Str.ofString "K") _) _ _ _)); (fail_if_success (with_reducible show wpAny _ _ (execs _ _) _ _ _)); k_node)
        ((fail_if_success (with_reducible show wpAny _ _ (storeName _ (Str.ofString "K") _) _ _ _)); (fail_if_success (with_reducible show wpAny _ _ (execs _ _) _ _ _)); k_node)
        ((fail_if_success (with_reducible show wpAny _ _ (storeName _ (Str.ofString "K") _) _ _ _)); (fail_if_success (with_reducible show wpAny _ _ (execs _ _) _ _ _)); k_node)
        ((fail_if_success (with_reducible show wpAny _ _ (storeName _ (Str.ofString "K") _) _ _ _)); (fail_if_success (with_reducible show wpAny _ _ (execs _ _) _ _ _)); k_node)
        ((fail_if_success (with_reducible show wpAny _ _ (storeName _ (Str.ofString "K") _) _ _ _)); (fail_if_success (with_reducible show wpAny _ _ (execs _ _) _ _ _)); k_node)
        ((fail_if_success (with_reducible show wpAny _ _ (storeName _ (Str.ofString "K") _) _ _ _)); (fail_if_success (with_reducible show wpAny _ _ (execs _ _) _ _ _)); k_node)
        with_reducible apply fuse
        · intro K' c'
          ((with_reducible show wpAny _ _ (nsGet _ _) _ _ _); k_dflt (first | refine (lk_build (inOf (by assumption) (by assumption))).at ?_ | refine (lk_obj1 (inOf (by assumption) (by assumption))).at ?_ | refine (lk_obj2 (inOf (by assumption) (by assumption))).at ?_ | refine (lk_b (inOf (by assumption) (by assumption))).at ?_ | refine (LkName.at (by assumption) (by assumption)) ?_))
          exact c'
        with_reducible apply fuse
        · intro K' c'
          ((with_reducible show wpAny _ _ (nsGet _ _) _ _ _); k_dflt (first | refine (lk_build (inOf (by assumption) (by assumption))).at ?_ | refine (lk_obj1 (inOf (by assumption) (by assumption))).at ?_ | refine (lk_obj2 (inOf (by assumption) (by assumption))).at ?_ | refine (lk_b (inOf (by assumption) (by assumption))).at ?_ | refine (LkName.at (by assumption) (by assumption)) ?_))
          exact c'
        exact wpAny_pure c'
      ((fail_if_success (with_reducible show wpAny _ _ (storeName _ (Str.ofString "K") _) _ _ _)); (fail_if_success (with_reducible show wpAny _ _ (execs _ _) _ _ _)); k_node)
      ((fail_if_success (with_reducible show wpAny _ _ (storeName _ (Str.ofString "K") _) _ _ _)); (fail_if_success (with_reducible show wpAny _ _ (execs _ _) _ _ _)); k_node)
      with_reducible apply fuse
      · intro K' c'
        exact wpAny_pure c'
      with_reducible apply fuse
      · intro K' c'
        with_reducible refine wpAny_holding ?_
        first | (exact wpAny_pure c') | (k_node; exact wpAny_pure c')
      exact wpAny_pure c'
    with_reducible apply fuse
    · intro K' c'
      exact wpAny_pure c'
    with_reducible refine wpAny_holding ?_
    ((fail_if_success (with_reducible show wpAny _ _ (storeName _ (Str.ofString "K") _) _ _ _)); (fail_if_success (with_reducible show wpAny _ _ (execs _ _) _ _ _)); k_node)
    ((fail_if_success (with_reducible show wpAny _ _ (storeName _ (Str.ofString "K") _) _ _ _)); (fail_if_success (with_reducible show wpAny _ _ (execs _ _) _ _ _)); k_node)
    with_reducible apply fuse
    · intro K' c'
      first | (exact wpAny_pure c') | (k_node; exact wpAny_pure c')
    with_reducible apply fuse
    · intro K' c'
      exact wpAny_pure c'
    exact wpAny_pure c'
  with_reducible apply fuse
  · intro K' c'
    with_reducible refine wpAny_standAt ?_
    exact c'
  with_reducible refine wpAny_holding ?_
  ((fail_if_success (with_reducible show wpAny _ _ (storeName _ (Str.ofString "K") _) _ _ _)); (fail_if_success (with_reducible show wpAny _ _ (execs _ _) _ _ _)); k_node)
  with_reducible apply fuseA
  · intro K' c'
    ((fail_if_success (with_reducible show wpAny _ _ (storeName _ (Str.ofString "K") _) _ _ _)); (fail_if_success (with_reducible show wpAny _ _ (execs _ _) _ _ _)); k_node)
    ((fail_if_success (with_reducible show wpAny _ _ (storeName _ (Str.ofString "K") _) _ _ _)); (fail_if_success (with_reducible show wpAny _ _ (execs _ _) _ _ _)); k_node)
    ((fail_if_success (with_reducible show wpAny _ _ (storeName _ (Str.ofString "K") _) _ _ _)); (fail_if_success (with_reducible show wpAny _ _ (execs _ _) _ _ _)); k_node)
    ((fail_if_success (with_reducible show wpAny _ _ (storeName _ (Str.ofString "K") _) _ _ _)); (fail_if_success (with_reducible show wpAny _ _ (execs _ _) _ _ _)); k_node)
    ((fail_if_success (with_reducible show wpAny _ _ (storeName _ (Str.ofString "K") _) _ _ _)); (fail_if_success (with_reducible show wpAny _ _ (execs _ _) _ _ _)); k_node)
    ((fail_if_success (with_reducible show wpAny _ _ (storeName _ (Str.ofString "K") _) _ _ _)); (fail_if_success (with_reducible show wpAny _ _ (execs _ _) _ _ _)); k_node)
    with_reducible apply fuseA
    · intro K' c'
      ((fail_if_success (with_reducible show wpAny _ _ (storeName _ (Str.ofString "K") _) _ _ _)); (fail_if_success (with_reducible show wpAny _ _ (execs _ _) _ _ _)); k_node)
      (with_reducible refine h_alloc (by assumption) rfl ?_; intro a' h' D')
      exact nd_pure (c' a' h' D')
    intro a' h' D'
    exact wpAny_pure (c' a' h' D')
  intro a' h' D'
  with_reducible apply fuse
  · intro K' c'
    ((with_reducible show wpAny _ _ (forIn _ _ _) _ _ _); first | with_reducible refine h_for_nil ?_ | with_reducible refine h_for_cons ?_ | k_dflt (first | refine h_for_nil ?_ | refine h_for_cons ?_))
    with_reducible apply fuse
    · intro K' c'
      first | (exact wpAny_pure c') | (k_node; exact wpAny_pure c')
    ((fail_if_success (with_reducible show wpAny _ _ (storeName _ (Str.ofString "K") _) _ _ _)); (fail_if_success (with_reducible show wpAny _ _ (execs _ _) _ _ _)); k_node)
    ((fail_if_success (with_reducible show wpAny _ _ (storeName _ (Str.ofString "K") _) _ _ _)); (fail_if_success (with_reducible show wpAny _ _ (execs _ _) _ _ _)); k_node)
    ((fail_if_success (with_reducible show wpAny _ _ (storeName _ (Str.ofString "K") _) _ _ _)); (fail_if_success (with_reducible show wpAny _ _ (execs _ _) _ _ _)); k_node)
    ((fail_if_success (with_reducible show wpAny _ _ (storeName _ (Str.ofString "K") _) _ _ _)); (fail_if_success (with_reducible show wpAny _ _ (execs _ _) _ _ _)); k_node)
    ((fail_if_success (with_reducible show wpAny _ _ (storeName _ (Str.ofString "K") _) _ _ _)); (fail_if_success (with_reducible show wpAny _ _ (execs _ _) _ _ _)); k_node)
    ((fail_if_success (with_reducible show wpAny _ _ (storeName _ (Str.ofString "K") _) _ _ _)); (fail_if_success (with_reducible show wpAny _ _ (execs _ _) _ _ _)); k_node)
    ((with_reducible show wpAny _ _ (forIn _ _ _) _ _ _); first | with_reducible refine h_for_nil ?_ | with_reducible refine h_for_cons ?_ | k_dflt (first | refine h_for_nil ?_ | refine h_for_cons ?_))
    exact c'
  ((fail_if_success (with_reducible show wpAny _ _ (storeName _ (Str.ofString "K") _) _ _ _)); (fail_if_success (with_reducible show wpAny _ _ (execs _ _) _ _ _)); k_node)
  with_reducible apply fuse
  · intro K' c'
    first | (exact wpAny_pure c') | (k_node; exact wpAny_pure c')
  with_reducible apply fuse
  · intro K' c'
    first | (exact wpAny_pure c') | (k_node; exact wpAny_pure c')
  ((fail_if_success (with_reducible show wpAny _ _ (storeName _ (Str.ofString "K") _) _ _ _)); (fail_if_success (with_reducible show wpAny _ _ (execs _ _) _ _ _)); k_node)
  ((fail_if_success (with_reducible show wpAny _ _ (storeName _ (Str.ofString "K") _) _ _ _)); (fail_if_success (with_reducible show wpAny _ _ (execs _ _) _ _ _)); k_node)
  with_reducible apply fuse
  · intro K' c'
    ((with_reducible show wpAny _ _ (forIn _ _ _) _ _ _); first | with_reducible refine h_for_nil ?_ | with_reducible refine h_for_cons ?_ | k_dflt (first | refine h_for_nil ?_ | refine h_for_cons ?_))
    with_reducible apply fuse
    · intro K' c'
      first | (exact wpAny_pure c') | (k_node; exact wpAny_pure c')
    with_reducible apply fuse
    · intro K' c'
      ((fail_if_success (with_reducible show wpAny _ _ (storeName _ (Str.ofString "K") _) _ _ _)); (fail_if_success (with_reducible show wpAny _ _ (execs _ _) _ _ _)); k_node)
      with_reducible apply fuse
      · intro K' c'
        first | (exact wpAny_pure c') | (k_node; exact wpAny_pure c') | (k_node; k_node; exact wpAny_pure c')
      exact wpAny_pure c'
    ((fail_if_success (with_reducible show wpAny _ _ (storeName _ (Str.ofString "K") _) _ _ _)); (fail_if_success (with_reducible show wpAny _ _ (execs _ _) _ _ _)); k_node)
    ((fail_if_success (with_reducible show wpAny _ _ (storeName _ (Str.ofString "K") _) _ _ _)); (fail_if_success (with_reducible show wpAny _ _ (execs _ _) _ _ _)); k_node)
    ((fail_if_success (with_reducible show wpAny _ _ (storeName _ (Str.ofString "K") _) _ _ _)); (fail_if_success (with_reducible show wpAny _ _ (execs _ _) _ _ _)); k_node)
    ((with_reducible show wpAny _ _ (forIn _ _ _) _ _ _); first | with_reducible refine h_for_nil ?_ | with_reducible refine h_for_cons ?_ | k_dflt (first | refine h_for_nil ?_ | refine h_for_cons ?_))
    exact c'
  with_reducible apply fuse
  · intro K' c'
    ((fail_if_success (with_reducible show wpAny _ _ (storeName _ (Str.ofString "K") _) _ _ _)); (fail_if_success (with_reducible show wpAny _ _ (execs _ _) _ _ _)); k_node)
    with_reducible apply fuse
    · intro K' c'
      ((fail_if_success (with_reducible show wpAny _ _ (storeName _ (Str.ofString "K") _) _ _ _)); (fail_if_success (with_reducible show wpAny _ _ (execs _ _) _ _ _)); k_node)
      with_reducible refine h_fresh ?_
      exact nd_pure c'
    exact wpAny_pure c'
  ((fail_if_success (with_reducible show wpAny _ _ (storeName _ (Str.ofString "K") _) _ _ _)); (fail_if_success (with_reducible show wpAny _ _ (execs _ _) _ _ _)); k_node)
  ((fail_if_success (with_reducible show wpAny _ _ (storeName _ (Str.ofString "K") _) _ _ _)); (fail_if_success (with_reducible show wpAny _ _ (execs _ _) _ _ _)); k_node)
  with_reducible apply fuse
  · intro K' c'
    exact wpAny_pure c'
  with_reducible refine wpAny_holding ?_
  (with_reducible refine k_bind ?_; intro K' c')
  ((fail_if_success (with_reducible show wpAny _ _ (storeName _ (Str.ofString "K") _) _ _ _)); (fail_if_success (with_reducible show wpAny _ _ (execs _ _) _ _ _)); k_node)
  with_reducible apply fuse
  · intro K' c'
    ((fail_if_success (with_reducible show wpAny _ _ (storeName _ (Str.ofString "K") _) _ _ _)); (fail_if_success (with_reducible show wpAny _ _ (execs _ _) _ _ _)); k_node)
    with_reducible apply fuse
    · intro K' c'
      ((fail_if_success (with_reducible show wpAny _ _ (storeName _ (Str.ofString "K") _) _ _ _)); (fail_if_success (with_reducible show wpAny _ _ (execs _ _) _ _ _)); k_node)
      with_reducible refine h_fresh ?_
      exact nd_pure c'
    exact wpAny_pure c'
  ((fail_if_success (with_reducible show wpAny _ _ (storeName _ (Str.ofString "K") _) _ _ _)); (fail_if_success (with_reducible show wpAny _ _ (execs _ _) _ _ _)); k_node)
  (with_reducible refine k_bind ?_; intro K' c')
  ((fail_if_success (with_reducible show wpAny _ _ (storeName _ (Str.ofString "K") _) _ _ _)); (fail_if_success (with_reducible show wpAny _ _ (execs _ _) _ _ _)); k_node)
  ((fail_if_success (with_reducible show wpAny _ _ (storeName _ (Str.ofString "K") _) _ _ _)); (fail_if_success (with_reducible show wpAny _ _ (execs _ _) _ _ _)); k_node)
  ((with_reducible show wpAny _ _ (Sem.call _ _ _ _ _) _ _ _); k_dflt (first | (refine h_call (prepget_x ?_); intro q' h' Dq'; have D' := Mm.trans (by assumption) Dq'; dsimp only [List.cons_append, List.nil_append] at D') | (refine' h_call (prep_x ?q ?_); (case q => refine' Mm.get ?D ?m; (case D => assumption); (case m => k_mem)); intro q' h' Dq'; have D' := Mm.trans (by assumption) Dq'; dsimp only [List.cons_append, List.nil_append] at D')))
  ((fail_if_success (with_reducible show wpAny _ _ (storeName _ (Str.ofString "K") _) _ _ _)); (fail_if_success (with_reducible show wpAny _ _ (execs _ _) _ _ _)); k_node)
  (with_reducible refine k_pure' (by assumption) ?_)
  (with_reducible refine k_pure (by assumption) ?_)
  (with_reducible refine k_bind ?_; intro K' c')
  ((fail_if_success (with_reducible show wpAny _ _ (storeName _ (Str.ofString "K") _) _ _ _)); (fail_if_success (with_reducible show wpAny _ _ (execs _ _) _ _ _)); k_node)
  ((fail_if_success (with_reducible show wpAny _ _ (storeName _ (Str.ofString "K") _) _ _ _)); (fail_if_success (with_reducible show wpAny _ _ (execs _ _) _ _ _)); k_node)
  (with_reducible refine k_bind ?_; intro K' c')
  ((fail_if_success (with_reducible show wpAny _ _ (storeName _ (Str.ofString "K") _) _ _ _)); (fail_if_success (with_reducible show wpAny _ _ (execs _ _) _ _ _)); k_node)
  ((with_reducible show wpAny _ _ (Sem.call _ _ _ _ _) _ _ _); k_dflt (first | (refine h_call (prepget_x ?_); intro q' h' Dq'; have D' := Mm.trans (by assumption) Dq'; dsimp only [List.cons_append, List.nil_append] at D') | (refine' h_call (prep_x ?q ?_); (case q => refine' Mm.get ?D ?m; (case D => assumption); (case m => k_mem)); intro q' h' Dq'; have D' := Mm.trans (by assumption) Dq'; dsimp only [List.cons_append, List.nil_append] at D')))
  (with_reducible refine k_pure' (by assumption) ?_)
  (with_reducible refine k_pure (by assumption) ?_)
  with_reducible apply fuse
  · intro K' c'
    ((fail_if_success (with_reducible show wpAny _ _ (storeName _ (Str.ofString "K") _) _ _ _)); (fail_if_success (with_reducible show wpAny _ _ (execs _ _) _ _ _)); k_node)
    ((with_reducible show wpAny _ _ (ite _ _ _) _ _ _); k_dflt (refine' h_notSys ?D ?m ?p ?_); (case D => assumption); (case p => assumption); (case m => k_mem))
    exact wpAny_pure c'
  with_reducible apply fuse
  · intro K' c'
    ((fail_if_success (with_reducible show wpAny _ _ (storeName _ (Str.ofString "K") _) _ _ _)); (fail_if_success (with_reducible show wpAny _ _ (execs _ _) _ _ _)); k_node)
    with_reducible apply fuse
    · intro K' c'
      ((fail_if_success (with_reducible show wpAny _ _ (storeName _ (Str.ofString "K") _) _ _ _)); (fail_if_success (with_reducible show wpAny _ _ (execs _ _) _ _ _)); k_node)
      with_reducible apply fuse
      · intro K' c'
        ((fail_if_success (with_reducible show wpAny _ _ (storeName _ (Str.ofString "K") _) _ _ _)); (fail_if_success (with_reducible show wpAny _ _ (execs _ _) _ _ _)); k_node)
        ((with_reducible show wpAny _ _ (Sem.load _ _ _) _ _ _); k_dflt (refine' h_new ?D ?m ?_); (case D => assumption); (case m => k_mem); (try dsimp only))
        exact nd_pure c'
      exact wpAny_pure c'
    ((fail_if_success (with_reducible show wpAny _ _ (storeName _ (Str.ofString "K") _) _ _ _)); (fail_if_success (with_reducible show wpAny _ _ (execs _ _) _ _ _)); k_node)
    with_reducible apply fuse
    · intro K' c'
      first | (exact wpAny_pure c') | (k_node; exact wpAny_pure c') | (k_node; k_node; exact wpAny_pure c')
    with_reducible apply fuse
    · intro K' c'
      ((with_reducible show wpAny _ _ (forIn _ _ _) _ _ _); first | with_reducible refine h_for_nil ?_ | with_reducible refine h_for_cons ?_ | k_dflt (first | refine h_for_nil ?_ | refine h_for_cons ?_))
      with_reducible apply fuse
      · intro K' c'
        first | (exact wpAny_pure c') | (k_node; exact wpAny_pure c')
      first | (exact wpAny_pure c') | (k_node; exact wpAny_pure c') | (k_node; k_node; exact wpAny_pure c') | (k_node; k_node; k_node; exact wpAny_pure c')
    exact wpAny_pure c'
  ((fail_if_success (with_reducible show wpAny _ _ (storeName _ (Str.ofString "K") _) _ _ _)); (fail_if_success (with_reducible show wpAny _ _ (execs _ _) _ _ _)); k_node)
  ((fail_if_success (with_reducible show wpAny _ _ (storeName _ (Str.ofString "K") _) _ _ _)); (fail_if_success (with_reducible show wpAny _ _ (execs _ _) _ _ _)); k_node)
  with_reducible refine wpAny_holding ?_
  ((fail_if_success (with_reducible show wpAny _ _ (storeName _ (Str.ofString "K") _) _ _ _)); (fail_if_success (with_reducible show wpAny _ _ (execs _ _) _ _ _)); k_node)
  ((fail_if_success (with_reducible show wpAny _ _ (storeName _ (Str.ofString "K") _) _ _ _)); (fail_if_success (with_reducible show wpAny _ _ (execs _ _) _ _ _)); k_node)
  with_reducible apply fuse
  · intro K' c'
    exact wpAny_pure c'
  ((fail_if_success (with_reducible show wpAny _ _ (storeName _ (Str.ofString "K") _) _ _ _)); (fail_if_success (with_reducible show wpAny _ _ (execs _ _) _ _ _)); k_node)
  ((fail_if_success (with_reducible show wpAny _ _ (storeName _ (Str.ofString "K") _) _ _ _)); (fail_if_success (with_reducible show wpAny _ _ (execs _ _) _ _ _)); k_node)
  with_reducible apply fuse
  · intro K' c'
    exact wpAny_pure c'
  (with_reducible refine k_bind ?_; intro K' c')
  ((fail_if_success (with_reducible show wpAny _ _ (storeName _ (Str.ofString "K") _) _ _ _)); (fail_if_success (with_reducible show wpAny _ _ (execs _ _) _ _ _)); k_node)
  ((fail_if_success (with_reducible show wpAny _ _ (storeName _ (Str.ofString "K") _) _ _ _)); (fail_if_success (with_reducible show wpAny _ _ (execs _ _) _ _ _)); k_node)
  ((fail_if_success (with_reducible show wpAny _ _ (storeName _ (Str.ofString "K") _) _ _ _)); (fail_if_success (with_reducible show wpAny _ _ (execs _ _) _ _ _)); k_node)
  with_reducible apply fuse
  · intro K' c'
    ((fail_if_success (with_reducible show wpAny _ _ (storeName _ (Str.ofString "K") _) _ _ _)); (fail_if_success (with_reducible show wpAny _ _ (execs _ _) _ _ _)); k_node)
    with_reducible apply fuse
    · intro K' c'
      ((fail_if_success (with_reducible show wpAny _ _ (storeName _ (Str.ofString "K") _) _ _ _)); (fail_if_success (with_reducible show wpAny _ _ (execs _ _) _ _ _)); k_node)
      ((with_reducible show wpAny _ _ (Sem.load _ _ _) _ _ _); k_dflt (refine' h_old ?D ?e ?_); (case D => assumption); (case e => assumption); (try dsimp only))
      exact nd_pure c'
    exact wpAny_pure c'
  ((fail_if_success (with_reducible show wpAny _ _ (storeName _ (Str.ofString "K") _) _ _ _)); (fail_if_success (with_reducible show wpAny _ _ (execs _ _) _ _ _)); k_node)
  with_reducible apply fuse
  · intro K' c'
    ((fail_if_success (with_reducible show wpAny _ _ (storeName _ (Str.ofString "K") _) _ _ _)); (fail_if_success (with_reducible show wpAny _ _ (execs _ _) _ _ _)); k_node)
    with_reducible apply fuse
    · intro K' c'
      ((fail_if_success (with_reducible show wpAny _ _ (storeName _ (Str.ofString "K") _) _ _ _)); (fail_if_success (with_reducible show wpAny _ _ (execs _ _) _ _ _)); k_node)
      ((with_reducible show wpAny _ _ (Sem.load _ _ _) _ _ _); k_dflt (refine' h_new ?D ?m ?_); (case D => assumption); (case m => k_mem); (try dsimp only))
      exact nd_pure c'
    exact wpAny_pure c'
  ((fail_if_success (with_reducible show wpAny _ _ (storeName _ (Str.ofString "K") _) _ _ _)); (fail_if_success (with_reducible show wpAny _ _ (execs _ _) _ _ _)); k_node)
  (with_reducible refine k_bind ?_; intro K' c')
  ((fail_if_success (with_reducible show wpAny _ _ (storeName _ (Str.ofString "K") _) _ _ _)); (fail_if_success (with_reducible show wpAny _ _ (execs _ _) _ _ _)); k_node)
  ((fail_if_success (with_reducible show wpAny _ _ (storeName _ (Str.ofString "K") _) _ _ _)); (fail_if_success (with_reducible show wpAny _ _ (execs _ _) _ _ _)); k_node)
  with_reducible apply fuse
  · intro K' c'
    ((fail_if_success (with_reducible show wpAny _ _ (storeName _ (Str.ofString "K") _) _ _ _)); (fail_if_success (with_reducible show wpAny _ _ (execs _ _) _ _ _)); k_node)
    with_reducible apply fuse
    · intro K' c'
      ((fail_if_success (with_reducible show wpAny _ _ (storeName _ (Str.ofString "K") _) _ _ _)); (fail_if_success (with_reducible show wpAny _ _ (execs _ _) _ _ _)); k_node)
      with_reducible refine h_fresh ?_
      exact nd_pure c'
    exact wpAny_pure c'
  with_reducible apply fuse
  · intro K' c'
    ((fail_if_success (with_reducible show wpAny _ _ (storeName _ (Str.ofString "K") _) _ _ _)); (fail_if_success (with_reducible show wpAny _ _ (execs _ _) _ _ _)); k_node)
    with_reducible apply fuse
    · intro K' c'
      ((fail_if_success (with_reducible show wpAny _ _ (storeName _ (Str.ofString "K") _) _ _ _)); (fail_if_success (with_reducible show wpAny _ _ (execs _ _) _ _ _)); k_node)
      with_reducible refine h_fresh ?_
      exact nd_pure c'
    exact wpAny_pure c'
  with_reducible apply fuse
  · intro K' c'
    ((fail_if_success (with_reducible show wpAny _ _ (storeName _ (Str.ofString "K") _) _ _ _)); (fail_if_success (with_reducible show wpAny _ _ (execs _ _) _ _ _)); k_node)
    with_reducible apply fuse
    · intro K' c'
      ((fail_if_success (with_reducible show wpAny _ _ (storeName _ (Str.ofString "K") _) _ _ _)); (fail_if_success (with_reducible show wpAny _ _ (execs _ _) _ _ _)); k_node)
      with_reducible refine h_fresh ?_
      exact nd_pure c'
    exact wpAny_pure c'
  with_reducible apply fuse
  · intro K' c'
    ((fail_if_success (with_reducible show wpAny _ _ (storeName _ (Str.ofString "K") _) _ _ _)); (fail_if_success (with_reducible show wpAny _ _ (execs _ _) _ _ _)); k_node)
    ((with_reducible show wpAny _ _ (List.mapM.loop _ _ _) _ _ _); k_dflt (first | refine h_free (l := [Str.ofString "mycmp"]) (by kernel_rfl) ?_ | refine h_free (l := []) (by kernel_rfl) ?_ | refine h_ml_nil ?_ | refine h_ml_cons ?_))
    ((with_reducible show wpAny _ _ (List.mapM.loop _ _ _) _ _ _); k_dflt (first | refine h_free (l := [Str.ofString "mycmp"]) (by kernel_rfl) ?_ | refine h_free (l := []) (by kernel_rfl) ?_ | refine h_ml_nil ?_ | refine h_ml_cons ?_))
    ((fail_if_success (with_reducible show wpAny _ _ (storeName _ (Str.ofString "K") _) _ _ _)); (fail_if_success (with_reducible show wpAny _ _ (execs _ _) _ _ _)); k_node)
    with_reducible apply fuse
    · intro K' c'
      ((fail_if_success (with_reducible show wpAny _ _ (storeName _ (Str.ofString "K") _) _ _ _)); (fail_if_success (with_reducible show wpAny _ _ (execs _ _) _ _ _)); k_node)
      with_reducible refine h_fresh ?_
      exact nd_pure c'
    ((fail_if_success (with_reducible show wpAny _ _ (storeName _ (Str.ofString "K") _) _ _ _)); (fail_if_success (with_reducible show wpAny _ _ (execs _ _) _ _ _)); k_node)
    ((fail_if_success (with_reducible show wpAny _ _ (storeName _ (Str.ofString "K") _) _ _ _)); (fail_if_success (with_reducible show wpAny _ _ (execs _ _) _ _ _)); k_node)
    ((with_reducible show wpAny _ _ (List.mapM.loop _ _ _) _ _ _); k_dflt (first | refine h_free (l := [Str.ofString "mycmp"]) (by kernel_rfl) ?_ | refine h_free (l := []) (by kernel_rfl) ?_ | refine h_ml_nil ?_ | refine h_ml_cons ?_))
    exact c'
  with_reducible apply fuseA
  · intro K' c'
    ((fail_if_success (with_reducible show wpAny _ _ (storeName _ (Str.ofString "K") _) _ _ _)); (fail_if_success (with_reducible show wpAny _ _ (execs _ _) _ _ _)); k_node)
    ((fail_if_success (with_reducible show wpAny _ _ (storeName _ (Str.ofString "K") _) _ _ _)); (fail_if_success (with_reducible show wpAny _ _ (execs _ _) _ _ _)); k_node)
    with_reducible apply fuseA
    · intro K' c'
      ((fail_if_success (with_reducible show wpAny _ _ (storeName _ (Str.ofString "K") _) _ _ _)); (fail_if_success (with_reducible show wpAny _ _ (execs _ _) _ _ _)); k_node)
      (with_reducible refine h_alloc (by assumption) rfl ?_; intro a' h' D')
      exact nd_pure (c' a' h' D')
    intro a' h' D'
    exact wpAny_pure (c' a' h' D')
  intro a' h' D'
  with_reducible apply fuseA
  · intro K' c'
    ((fail_if_success (with_reducible show wpAny _ _ (storeName _ (Str.ofString "K") _) _ _ _)); (fail_if_success (with_reducible show wpAny _ _ (execs _ _) _ _ _)); k_node)
    (with_reducible refine h_alloc (by assumption) rfl ?_; intro a' h' D')
    exact nd_pure (c' a' h' D')
  intro a' h' D'
  with_reducible apply fuse
  · intro K' c'
    exact wpAny_pure c'
  with_reducible apply fuse
  · intro K' c'
    exact wpAny_pure c'
  with_reducible apply fuse
  · intro K' c'
    exact wpAny_pure c'
  with_reducible apply fuse
  · intro K' c'
    ((fail_if_success (with_reducible show wpAny _ _ (storeName _ (Str.ofString "K") _) _ _ _)); (fail_if_success (with_reducible show wpAny _ _ (execs _ _) _ _ _)); k_node)
    with_reducible refine h_fresh ?_
    exact nd_pure c'
  with_reducible apply fuse
  · intro K' c'
    ((fail_if_success (with_reducible show wpAny _ _ (storeName _ (Str.ofString "K") _) _ _ _)); (fail_if_success (with_reducible show wpAny _ _ (execs _ _) _ _ _)); k_node)
    with_reducible apply fuse
    · intro K' c'
      ((fail_if_success (with_reducible show wpAny _ _ (storeName _ (Str.ofString "K") _) _ _ _)); (fail_if_success (with_reducible show wpAny _ _ (execs _ _) _ _ _)); k_node)
      with_reducible refine h_fresh ?_
      exact nd_pure c'
    exact wpAny_pure c'
  ((fail_if_success (with_reducible show wpAny _ _ (storeName _ (Str.ofString "K") _) _ _ _)); (fail_if_success (with_reducible show wpAny _ _ (execs _ _) _ _ _)); k_node)
  ((fail_if_success (with_reducible show wpAny _ _ (storeName _ (Str.ofString "K") _) _ _ _)); (fail_if_success (with_reducible show wpAny _ _ (execs _ _) _ _ _)); k_node)
  ((fail_if_success (with_reducible show wpAny _ _ (storeName _ (Str.ofString "K") _) _ _ _)); (fail_if_success (with_reducible show wpAny _ _ (execs _ _) _ _ _)); k_node)
  ((fail_if_success (with_reducible show wpAny _ _ (storeName _ (Str.ofString "K") _) _ _ _)); (fail_if_success (with_reducible show wpAny _ _ (execs _ _) _ _ _)); k_node)
  ((fail_if_success (with_reducible show wpAny _ _ (storeName _ (Str.ofString "K") _) _ _ _)); (fail_if_success (with_reducible show wpAny _ _ (execs _ _) _ _ _)); k_node)
  ((fail_if_success (with_reducible show wpAny _ _ (storeName _ (Str.ofString "K") _) _ _ _)); (fail_if_success (with_reducible show wpAny _ _ (execs _ _) _ _ _)); k_node)
  with_reducible apply fuseA
  · intro K' c'
    ((fail_if_success (with_reducible show wpAny _ _ (storeName _ (Str.ofString "K") _) _ _ _)); (fail_if_success (with_reducible show wpAny _ _ (execs _ _) _ _ _)); k_node)
    (with_reducible refine h_alloc (by assumption) rfl ?_; intro a' h' D')
    exact nd_pure (c' a' h' D')
  intro a' h' D'
  (with_reducible refine k_pure (by assumption) ?_)
  with_reducible apply fuseC
  · intro K' c'
    ((fail_if_success (with_reducible show wpAny _ _ (storeName _ (Str.ofString "K") _) _ _ _)); (fail_if_success (with_reducible show wpAny _ _ (execs _ _) _ _ _)); k_node)
    with_reducible apply fuse
    · intro K' c'
      ((fail_if_success (with_reducible show wpAny _ _ (storeName _ (Str.ofString "K") _) _ _ _)); (fail_if_success (with_reducible show wpAny _ _ (execs _ _) _ _ _)); k_node)
      ((with_reducible show wpAny _ _ (Sem.load _ _ _) _ _ _); k_dflt (refine' h_new ?D ?m ?_); (case D => assumption); (case m => k_mem); (try dsimp only))
      exact nd_pure c'
    ((fail_if_success (with_reducible show wpAny _ _ (storeName _ (Str.ofString "K") _) _ _ _)); (fail_if_success (with_reducible show wpAny _ _ (execs _ _) _ _ _)); k_node)
    ((fail_if_success (with_reducible show wpAny _ _ (storeName _ (Str.ofString "K") _) _ _ _)); (fail_if_success (with_reducible show wpAny _ _ (execs _ _) _ _ _)); k_node)
    ((with_reducible show wpAny _ _ (Sem.update _ _ (Obj.mapFields _) _) _ _ _); k_dflt (refine' h_tab ?D ?m ?e ?u ?_); (case D => assumption); (case m => k_mem); (case e => exact if_neg Bool.false_ne_true); (case u => k_all); intro h' D')
    exact nd_pure (c' h' D')
  intro h' D'
  with_reducible apply fuse
  · intro K' c'
    ((fail_if_success (with_reducible show wpAny _ _ (storeName _ (Str.ofString "K") _) _ _ _)); (fail_if_success (with_reducible show wpAny _ _ (execs _ _) _ _ _)); k_node)
    with_reducible apply fuse
    · intro K' c'
      ((fail_if_success (with_reducible show wpAny _ _ (storeName _ (Str.ofString "K") _) _ _ _)); (fail_if_success (with_reducible show wpAny _ _ (execs _ _) _ _ _)); k_node)
      ((with_reducible show wpAny _ _ (Sem.load _ _ _) _ _ _); k_dflt (refine' h_new ?D ?m ?_); (case D => assumption); (case m => k_mem); (try dsimp only))
      exact nd_pure c'
    exact wpAny_pure c'
  ((fail_if_success (with_reducible show wpAny _ _ (storeName _ (Str.ofString "K") _) _ _ _)); (fail_if_success (with_reducible show wpAny _ _ (execs _ _) _ _ _)); k_node)
  (with_reducible refine k_pure (by assumption) ?_)
  with_reducible apply fuse
  · intro K' c'
    ((fail_if_success (with_reducible show wpAny _ _ (storeName _ (Str.ofString "K") _) _ _ _)); (fail_if_success (with_reducible show wpAny _ _ (execs _ _) _ _ _)); k_node)
    with_reducible apply fuse
    · intro K' c'
      ((with_reducible show wpAny _ _ (nsGet _ _) _ _ _); k_dflt (first | refine (lk_build (inOf (by assumption) (by assumption))).at ?_ | refine (lk_obj1 (inOf (by assumption) (by assumption))).at ?_ | refine (lk_obj2 (inOf (by assumption) (by assumption))).at ?_ | refine (lk_b (inOf (by assumption) (by assumption))).at ?_ | refine (LkName.at (by assumption) (by assumption)) ?_))
      exact c'
    ((fail_if_success (with_reducible show wpAny _ _ (storeName _ (Str.ofString "K") _) _ _ _)); (fail_if_success (with_reducible show wpAny _ _ (execs _ _) _ _ _)); k_node)
    ((fail_if_success (with_reducible show wpAny _ _ (storeName _ (Str.ofString "K") _) _ _ _)); (fail_if_success (with_reducible show wpAny _ _ (execs _ _) _ _ _)); k_node)
    with_reducible apply fuse
    · intro K' c'
      ((fail_if_success (with_reducible show wpAny _ _ (storeName _ (Str.ofString "K") _) _ _ _)); (fail_if_success (with_reducible show wpAny _ _ (execs _ _) _ _ _)); k_node)
      ((with_reducible show wpAny _ _ (Sem.load _ _ _) _ _ _); k_dflt (refine' h_old ?D ?e ?_); (case D => assumption); (case e => assumption); (try dsimp only))
      exact nd_pure c'
    first | (exact wpAny_pure c') | (k_node; exact wpAny_pure c') | (k_node; k_node; exact wpAny_pure c')
  with_reducible apply fuseA
  · intro K' c'
    ((fail_if_success (with_reducible show wpAny _ _ (storeName _ (Str.ofString "K") _) _ _ _)); (fail_if_success (with_reducible show wpAny _ _ (execs _ _) _ _ _)); k_node)
    with_reducible apply fuse
    · intro K' c'
      ((with_reducible show wpAny _ _ (nsGet _ _) _ _ _); k_dflt (first | refine (lk_build (inOf (by assumption) (by assumption))).at ?_ | refine (lk_obj1 (inOf (by assumption) (by assumption))).at ?_ | refine (lk_obj2 (inOf (by assumption) (by assumption))).at ?_ | refine (lk_b (inOf (by assumption) (by assumption))).at ?_ | refine (LkName.at (by assumption) (by assumption)) ?_))
      exact c'
    ((fail_if_success (with_reducible show wpAny _ _ (storeName _ (Str.ofString "K") _) _ _ _)); (fail_if_success (with_reducible show wpAny _ _ (execs _ _) _ _ _)); k_node)
    (with_reducible refine h_alloc (by assumption) rfl ?_; intro a' h' D')
    exact nd_pure (c' a' h' D')
  intro a' h' D'
  with_reducible apply fuse
  · intro K' c'
    ((fail_if_success (with_reducible show wpAny _ _ (storeName _ (Str.ofString "K") _) _ _ _)); (fail_if_success (with_reducible show wpAny _ _ (execs _ _) _ _ _)); k_node)
    with_reducible apply fuse
    · intro K' c'
      ((with_reducible show wpAny _ _ (forIn _ _ _) _ _ _); first | with_reducible refine h_for_nil ?_ | with_reducible refine h_for_cons ?_ | k_dflt (first | refine h_for_nil ?_ | refine h_for_cons ?_))
      ((fail_if_success (with_reducible show wpAny _ _ (storeName _ (Str.ofString "K") _) _ _ _)); (fail_if_success (with_reducible show wpAny _ _ (execs _ _) _ _ _)); k_node)
      ((fail_if_success (with_reducible show wpAny _ _ (storeName _ (Str.ofString "K") _) _ _ _)); (fail_if_success (with_reducible show wpAny _ _ (execs _ _) _ _ _)); k_node)
      ((fail_if_success (with_reducible show wpAny _ _ (storeName _ (Str.ofString "K") _) _ _ _)); (fail_if_success (with_reducible show wpAny _ _ (execs _ _) _ _ _)); k_node)
      ((fail_if_success (with_reducible show wpAny _ _ (storeName _ (Str.ofString "K") _) _ _ _)); (fail_if_success (with_reducible show wpAny _ _ (execs _ _) _ _ _)); k_node)
      ((with_reducible show wpAny _ _ (forIn _ _ _) _ _ _); first | with_reducible refine h_for_nil ?_ | with_reducible refine h_for_cons ?_ | k_dflt (first | refine h_for_nil ?_ | refine h_for_cons ?_))
      ((fail_if_success (with_reducible show wpAny _ _ (storeName _ (Str.ofString "K") _) _ _ _)); (fail_if_success (with_reducible show wpAny _ _ (execs _ _) _ _ _)); k_node)
      ((fail_if_success (with_reducible show wpAny _ _ (storeName _ (Str.ofString "K") _) _ _ _)); (fail_if_success (with_reducible show wpAny _ _ (execs _ _) _ _ _)); k_node)
      ((fail_if_success (with_reducible show wpAny _ _ (storeName _ (Str.ofString "K") _) _ _ _)); (fail_if_success (with_reducible show wpAny _ _ (execs _ _) _ _ _)); k_node)
      ((with_reducible show wpAny _ _ (forIn _ _ _) _ _ _); first | with_reducible refine h_for_nil ?_ | with_reducible refine h_for_cons ?_ | k_dflt (first | refine h_for_nil ?_ | refine h_for_cons ?_))
      ((fail_if_success (with_reducible show wpAny _ _ (storeName _ (Str.ofString "K") _) _ _ _)); (fail_if_success (with_reducible show wpAny _ _ (execs _ _) _ _ _)); k_node)
      ((fail_if_success (with_reducible show wpAny _ _ (storeName _ (Str.ofString "K") _) _ _ _)); (fail_if_success (with_reducible show wpAny _ _ (execs _ _) _ _ _)); k_node)
      ((fail_if_success (with_reducible show wpAny _ _ (storeName _ (Str.ofString "K") _) _ _ _)); (fail_if_success (with_reducible show wpAny _ _ (execs _ _) _ _ _)); k_node)
      ((with_reducible show wpAny _ _ (forIn _ _ _) _ _ _); first | with_reducible refine h_for_nil ?_ | with_reducible refine h_for_cons ?_ | k_dflt (first | refine h_for_nil ?_ | refine h_for_cons ?_))
      ((fail_if_success (with_reducible show wpAny _ _ (storeName _ (Str.ofString "K") _) _ _ _)); (fail_if_success (with_reducible show wpAny _ _ (execs _ _) _ _ _)); k_node)
      ((fail_if_success (with_reducible show wpAny _ _ (storeName _ (Str.ofString "K") _) _ _ _)); (fail_if_success (with_reducible show wpAny _ _ (execs _ _) _ _ _)); k_node)
      ((fail_if_success (with_reducible show wpAny _ _ (storeName _ (Str.ofString "K") _) _ _ _)); (fail_if_success (with_reducible show wpAny _ _ (execs _ _) _ _ _)); k_node)
      ((with_reducible show wpAny _ _ (forIn _ _ _) _ _ _); first | with_reducible refine h_for_nil ?_ | with_reducible refine h_for_cons ?_ | k_dflt (first | refine h_for_nil ?_ | refine h_for_cons ?_))
      ((fail_if_success (with_reducible show wpAny _ _ (storeName _ (Str.ofString "K") _) _ _ _)); (fail_if_success (with_reducible show wpAny _ _ (execs _ _) _ _ _)); k_node)
      ((fail_if_success (with_reducible show wpAny _ _ (storeName _ (Str.ofString "K") _) _ _ _)); (fail_if_success (with_reducible show wpAny _ _ (execs _ _) _ _ _)); k_node)
      ((fail_if_success (with_reducible show wpAny _ _ (storeName _ (Str.ofString "K") _) _ _ _)); (fail_if_success (with_reducible show wpAny _ _ (execs _ _) _ _ _)); k_node)
      ((with_reducible show wpAny _ _ (forIn _ _ _) _ _ _); first | with_reducible refine h_for_nil ?_ | with_reducible refine h_for_cons ?_ | k_dflt (first | refine h_for_nil ?_ | refine h_for_cons ?_))
      ((fail_if_success (with_reducible show wpAny _ _ (storeName _ (Str.ofString "K") _) _ _ _)); (fail_if_success (with_reducible show wpAny _ _ (execs _ _) _ _ _)); k_node)
      ((fail_if_success (with_reducible show wpAny _ _ (storeName _ (Str.ofString "K") _) _ _ _)); (fail_if_success (with_reducible show wpAny _ _ (execs _ _) _ _ _)); k_node)
      ((fail_if_success (with_reducible show wpAny _ _ (storeName _ (Str.ofString "K") _) _ _ _)); (fail_if_success (with_reducible show wpAny _ _ (execs _ _) _ _ _)); k_node)
      ((with_reducible show wpAny _ _ (forIn _ _ _) _ _ _); first | with_reducible refine h_for_nil ?_ | with_reducible refine h_for_cons ?_ | k_dflt (first | refine h_for_nil ?_ | refine h_for_cons ?_))
      ((fail_if_success (with_reducible show wpAny _ _ (storeName _ (Str.ofString "K") _) _ _ _)); (fail_if_success (with_reducible show wpAny _ _ (execs _ _) _ _ _)); k_node)
      ((fail_if_success (with_reducible show wpAny _ _ (storeName _ (Str.ofString "K") _) _ _ _)); (fail_if_success (with_reducible show wpAny _ _ (execs _ _) _ _ _)); k_node)
      ((fail_if_success (with_reducible show wpAny _ _ (storeName _ (Str.ofString "K") _) _ _ _)); (fail_if_success (with_reducible show wpAny _ _ (execs _ _) _ _ _)); k_node)
      ((with_reducible show wpAny _ _ (forIn _ _ _) _ _ _); first | with_reducible refine h_for_nil ?_ | with_reducible refine h_for_cons ?_ | k_dflt (first | refine h_for_nil ?_ | refine h_for_cons ?_))
      ((fail_if_success (with_reducible show wpAny _ _ (storeName _ (Str.ofString "K") _) _ _ _)); (fail_if_success (with_reducible show wpAny _ _ (execs _ _) _ _ _)); k_node)
      ((fail_if_success (with_reducible show wpAny _ _ (storeName _ (Str.ofString "K") _) _ _ _)); (fail_if_success (with_reducible show wpAny _ _ (execs _ _) _ _ _)); k_node)
      ((fail_if_success (with_reducible show wpAny _ _ (storeName _ (Str.ofString "K") _) _ _ _)); (fail_if_success (with_reducible show wpAny _ _ (execs _ _) _ _ _)); k_node)
      ((with_reducible show wpAny _ _ (forIn _ _ _) _ _ _); first | with_reducible refine h_for_nil ?_ | with_reducible refine h_for_cons ?_ | k_dflt (first | refine h_for_nil ?_ | refine h_for_cons ?_))
      ((fail_if_success (with_reducible show wpAny _ _ (storeName _ (Str.ofString "K") _) _ _ _)); (fail_if_success (with_reducible show wpAny _ _ (execs _ _) _ _ _)); k_node)
      ((fail_if_success (with_reducible show wpAny _ _ (storeName _ (Str.ofString "K") _) _ _ _)); (fail_if_success (with_reducible show wpAny _ _ (execs _ _) _ _ _)); k_node)
      ((fail_if_success (with_reducible show wpAny _ _ (storeName _ (Str.ofString "K") _) _ _ _)); (fail_if_success (with_reducible show wpAny _ _ (execs _ _) _ _ _)); k_node)
      ((with_reducible show wpAny _ _ (forIn _ _ _) _ _ _); first | with_reducible refine h_for_nil ?_ | with_reducible refine h_for_cons ?_ | k_dflt (first | refine h_for_nil ?_ | refine h_for_cons ?_))
      ((fail_if_success (with_reducible show wpAny _ _ (storeName _ (Str.ofString "K") _) _ _ _)); (fail_if_success (with_reducible show wpAny _ _ (execs _ _) _ _ _)); k_node)
      with_reducible apply fuse
      · intro K' c'
        first | (exact wpAny_pure c') | (k_node; exact wpAny_pure c') | (k_node; k_node; exact wpAny_pure c')
      ((fail_if_success (with_reducible show wpAny _ _ (storeName _ (Str.ofString "K") _) _ _ _)); (fail_if_success (with_reducible show wpAny _ _ (execs _ _) _ _ _)); k_node)
      ((fail_if_success (with_reducible show wpAny _ _ (storeName _ (Str.ofString "K") _) _ _ _)); (fail_if_success (with_reducible show wpAny _ _ (execs _ _) _ _ _)); k_node)
      ((with_reducible show wpAny _ _ (forIn _ _ _) _ _ _); first | with_reducible refine h_for_nil ?_ | with_reducible refine h_for_cons ?_ | k_dflt (first | refine h_for_nil ?_ | refine h_for_cons ?_))
      exact c'
    exact wpAny_pure c'
  with_reducible refine wpAny_holding ?_
  with_reducible apply fuse
  · intro K' c'
    (with_reducible refine wpAny_enterFrame (NoLim.at (by assumption) (by assumption)) (by k_room) ?_)
    exact c'
  (with_reducible refine k_bind ?_; intro K' c')
  with_reducible refine wpAny_onRaise ?_
  with_reducible apply fuse
  · intro K' c'
    ((fail_if_success (with_reducible show wpAny _ _ (storeName _ (Str.ofString "K") _) _ _ _)); (fail_if_success (with_reducible show wpAny _ _ (execs _ _) _ _ _)); k_node)
    ((fail_if_success (with_reducible show wpAny _ _ (storeName _ (Str.ofString "K") _) _ _ _)); (fail_if_success (with_reducible show wpAny _ _ (execs _ _) _ _ _)); k_node)
    ((fail_if_success (with_reducible show wpAny _ _ (storeName _ (Str.ofString "K") _) _ _ _)); (fail_if_success (with_reducible show wpAny _ _ (execs _ _) _ _ _)); k_node)
    ((fail_if_success (with_reducible show wpAny _ _ (storeName _ (Str.ofString "K") _) _ _ _)); (fail_if_success (with_reducible show wpAny _ _ (execs _ _) _ _ _)); k_node)
    ((fail_if_success (with_reducible show wpAny _ _ (storeName _ (Str.ofString "K") _) _ _ _)); (fail_if_success (with_reducible show wpAny _ _ (execs _ _) _ _ _)); k_node)
    with_reducible apply fuse
    · intro K' c'
      ((fail_if_success (with_reducible show wpAny _ _ (storeName _ (Str.ofString "K") _) _ _ _)); (fail_if_success (with_reducible show wpAny _ _ (execs _ _) _ _ _)); k_node)
      with_reducible apply fuse
      · intro K' c'
        ((fail_if_success (with_reducible show wpAny _ _ (storeName _ (Str.ofString "K") _) _ _ _)); (fail_if_success (with_reducible show wpAny _ _ (execs _ _) _ _ _)); k_node)
        ((with_reducible show wpAny _ _ (Sem.load _ _ _) _ _ _); k_dflt (refine' h_new ?D ?m ?_); (case D => assumption); (case m => k_mem); (try dsimp only))
        exact nd_pure c'
      ((fail_if_success (with_reducible show wpAny _ _ (storeName _ (Str.ofString "K") _) _ _ _)); (fail_if_success (with_reducible show wpAny _ _ (execs _ _) _ _ _)); k_node)
      ((fail_if_success (with_reducible show wpAny _ _ (storeName _ (Str.ofString "K") _) _ _ _)); (fail_if_success (with_reducible show wpAny _ _ (execs _ _) _ _ _)); k_node)
      with_reducible apply fuse
      · intro K' c'
        ((fail_if_success (with_reducible show wpAny _ _ (storeName _ (Str.ofString "K") _) _ _ _)); (fail_if_success (with_reducible show wpAny _ _ (execs _ _) _ _ _)); k_node)
        ((with_reducible show wpAny _ _ (Sem.load _ _ _) _ _ _); k_dflt (refine' h_new ?D ?m ?_); (case D => assumption); (case m => k_mem); (try dsimp only))
        exact nd_pure c'
      first | (exact wpAny_pure c') | (k_node; exact wpAny_pure c') | (k_node; k_node; exact wpAny_pure c')
    ((fail_if_success (with_reducible show wpAny _ _ (storeName _ (Str.ofString "K") _) _ _ _)); (fail_if_success (with_reducible show wpAny _ _ (execs _ _) _ _ _)); k_node)
    ((fail_if_success (with_reducible show wpAny _ _ (storeName _ (Str.ofString "K") _) _ _ _)); (fail_if_success (with_reducible show wpAny _ _ (execs _ _) _ _ _)); k_node)
    with_reducible apply fuse
    · intro K' c'
      ((with_reducible show wpAny _ _ (nsGet _ _) _ _ _); k_dflt (first | refine (lk_build (inOf (by assumption) (by assumption))).at ?_ | refine (lk_obj1 (inOf (by assumption) (by assumption))).at ?_ | refine (lk_obj2 (inOf (by assumption) (by assumption))).at ?_ | refine (lk_b (inOf (by assumption) (by assumption))).at ?_ | refine (LkName.at (by assumption) (by assumption)) ?_))
      exact c'
    exact wpAny_pure c'
  with_reducible apply fuseC
  · intro K' c'
    ((fail_if_success (with_reducible show wpAny _ _ (storeName _ (Str.ofString "K") _) _ _ _)); (fail_if_success (with_reducible show wpAny _ _ (execs _ _) _ _ _)); k_node)
    ((fail_if_success (with_reducible show wpAny _ _ (storeName _ (Str.ofString "K") _) _ _ _)); (fail_if_success (with_reducible show wpAny _ _ (execs _ _) _ _ _)); k_node)
    ((fail_if_success (with_reducible show wpAny _ _ (storeName _ (Str.ofString "K") _) _ _ _)); (fail_if_success (with_reducible show wpAny _ _ (execs _ _) _ _ _)); k_node)
    ((fail_if_success (with_reducible show wpAny _ _ (storeName _ (Str.ofString "K") _) _ _ _)); (fail_if_success (with_reducible show wpAny _ _ (execs _ _) _ _ _)); k_node)
    with_reducible apply fuse
    · intro K' c'
      ((fail_if_success (with_reducible show wpAny _ _ (storeName _ (Str.ofString "K") _) _ _ _)); (fail_if_success (with_reducible show wpAny _ _ (execs _ _) _ _ _)); k_node)
      ((with_reducible show wpAny _ _ (Sem.load _ _ _) _ _ _); k_dflt (refine' h_new ?D ?m ?_); (case D => assumption); (case m => k_mem); (try dsimp only))
      exact nd_pure c'
    ((fail_if_success (with_reducible show wpAny _ _ (storeName _ (Str.ofString "K") _) _ _ _)); (fail_if_success (with_reducible show wpAny _ _ (execs _ _) _ _ _)); k_node)
    ((with_reducible show wpAny _ _ (nsSet _ _ _) _ _ _); k_dflt (refine' h_nsSet ?D ?m ?k ?e ?u ?_); (case D => assumption); (case m => k_mem); (case k => rfl); (case e => k_put); (case u => k_all); intro h' D')
    exact c' h' D'
  intro h' D'
  with_reducible apply fuse
  · intro K' c'
    ((fail_if_success (with_reducible show wpAny _ _ (storeName _ (Str.ofString "K") _) _ _ _)); (fail_if_success (with_reducible show wpAny _ _ (execs _ _) _ _ _)); k_node)
    with_reducible apply fuse
    · intro K' c'
      ((fail_if_success (with_reducible show wpAny _ _ (storeName _ (Str.ofString "K") _) _ _ _)); (fail_if_success (with_reducible show wpAny _ _ (execs _ _) _ _ _)); k_node)
      with_reducible refine h_fresh ?_
      exact nd_pure c'
    exact wpAny_pure c'
  with_reducible apply fuseC
  · intro K' c'
    ((fail_if_success (with_reducible show wpAny _ _ (storeName _ (Str.ofString "K") _) _ _ _)); (fail_if_success (with_reducible show wpAny _ _ (execs _ _) _ _ _)); k_node)
    ((fail_if_success (with_reducible show wpAny _ _ (storeName _ (Str.ofString "K") _) _ _ _)); (fail_if_success (with_reducible show wpAny _ _ (execs _ _) _ _ _)); k_node)
    ((fail_if_success (with_reducible show wpAny _ _ (storeName _ (Str.ofString "K") _) _ _ _)); (fail_if_success (with_reducible show wpAny _ _ (execs _ _) _ _ _)); k_node)
    ((fail_if_success (with_reducible show wpAny _ _ (storeName _ (Str.ofString "K") _) _ _ _)); (fail_if_success (with_reducible show wpAny _ _ (execs _ _) _ _ _)); k_node)
    ((fail_if_success (with_reducible show wpAny _ _ (storeName _ (Str.ofString "K") _) _ _ _)); (fail_if_success (with_reducible show wpAny _ _ (execs _ _) _ _ _)); k_node)
    ((fail_if_success (with_reducible show wpAny _ _ (storeName _ (Str.ofString "K") _) _ _ _)); (fail_if_success (with_reducible show wpAny _ _ (execs _ _) _ _ _)); k_node)
    with_reducible apply fuse
    · intro K' c'
      ((fail_if_success (with_reducible show wpAny _ _ (storeName _ (Str.ofString "K") _) _ _ _)); (fail_if_success (with_reducible show wpAny _ _ (execs _ _) _ _ _)); k_node)
      ((with_reducible show wpAny _ _ (Sem.load _ _ _) _ _ _); k_dflt (refine' h_new ?D ?m ?_); (case D => assumption); (case m => k_mem); (try dsimp only))
      exact nd_pure c'
    ((fail_if_success (with_reducible show wpAny _ _ (storeName _ (Str.ofString "K") _) _ _ _)); (fail_if_success (with_reducible show wpAny _ _ (execs _ _) _ _ _)); k_node)
    ((with_reducible show wpAny _ _ (nsSet _ _ _) _ _ _); k_dflt (refine' h_nsSet ?D ?m ?k ?e ?u ?_); (case D => assumption); (case m => k_mem); (case k => rfl); (case e => k_put); (case u => k_all); intro h' D')
    exact c' h' D'
  intro h' D'
  with_reducible apply fuse
  · intro K' c'
    ((fail_if_success (with_reducible show wpAny _ _ (storeName _ (Str.ofString "K") _) _ _ _)); (fail_if_success (with_reducible show wpAny _ _ (execs _ _) _ _ _)); k_node)
    with_reducible apply fuse
    · intro K' c'
      ((fail_if_success (with_reducible show wpAny _ _ (storeName _ (Str.ofString "K") _) _ _ _)); (fail_if_success (with_reducible show wpAny _ _ (execs _ _) _ _ _)); k_node)
      with_reducible refine h_fresh ?_
      exact nd_pure c'
    exact wpAny_pure c'
  with_reducible apply fuseC
  · intro K' c'
    ((fail_if_success (with_reducible show wpAny _ _ (storeName _ (Str.ofString "K") _) _ _ _)); (fail_if_success (with_reducible show wpAny _ _ (execs _ _) _ _ _)); k_node)
    ((fail_if_success (with_reducible show wpAny _ _ (storeName _ (Str.ofString "K") _) _ _ _)); (fail_if_success (with_reducible show wpAny _ _ (execs _ _) _ _ _)); k_node)
    ((fail_if_success (with_reducible show wpAny _ _ (storeName _ (Str.ofString "K") _) _ _ _)); (fail_if_success (with_reducible show wpAny _ _ (execs _ _) _ _ _)); k_node)
    ((fail_if_success (with_reducible show wpAny _ _ (storeName _ (Str.ofString "K") _) _ _ _)); (fail_if_success (with_reducible show wpAny _ _ (execs _ _) _ _ _)); k_node)
    ((fail_if_success (with_reducible show wpAny _ _ (storeName _ (Str.ofString "K") _) _ _ _)); (fail_if_success (with_reducible show wpAny _ _ (execs _ _) _ _ _)); k_node)
    ((fail_if_success (with_reducible show wpAny _ _ (storeName _ (Str.ofString "K") _) _ _ _)); (fail_if_success (with_reducible show wpAny _ _ (execs _ _) _ _ _)); k_node)
    with_reducible apply fuse
    · intro K' c'
      ((fail_if_success (with_reducible show wpAny _ _ (storeName _ (Str.ofString "K") _) _ _ _)); (fail_if_success (with_reducible show wpAny _ _ (execs _ _) _ _ _)); k_node)
      ((with_reducible show wpAny _ _ (Sem.load _ _ _) _ _ _); k_dflt (refine' h_new ?D ?m ?_); (case D => assumption); (case m => k_mem); (try dsimp only))
      exact nd_pure c'
    ((fail_if_success (with_reducible show wpAny _ _ (storeName _ (Str.ofString "K") _) _ _ _)); (fail_if_success (with_reducible show wpAny _ _ (execs _ _) _ _ _)); k_node)
    ((with_reducible show wpAny _ _ (nsSet _ _ _) _ _ _); k_dflt (refine' h_nsSet ?D ?m ?k ?e ?u ?_); (case D => assumption); (case m => k_mem); (case k => rfl); (case e => k_put); (case u => k_all); intro h' D')
    exact c' h' D'
  intro h' D'
  ((fail_if_success (with_reducible show wpAny _ _ (storeName _ (Str.ofString "K") _) _ _ _)); (fail_if_success (with_reducible show wpAny _ _ (execs _ _) _ _ _)); k_node)
  ((fail_if_success (with_reducible show wpAny _ _ (storeName _ (Str.ofString "K") _) _ _ _)); (fail_if_success (with_reducible show wpAny _ _ (execs _ _) _ _ _)); k_node)
  ((fail_if_success (with_reducible show wpAny _ _ (storeName _ (Str.ofString "K") _) _ _ _)); (fail_if_success (with_reducible show wpAny _ _ (execs _ _) _ _ _)); k_node)
  (with_reducible refine k_ret (by assumption) ?_)
  (with_reducible refine k_bind ?_; intro K' c')
  ((fail_if_success (with_reducible show wpAny _ _ (storeName _ (Str.ofString "K") _) _ _ _)); (fail_if_success (with_reducible show wpAny _ _ (execs _ _) _ _ _)); k_node)
  rename Mm _ _ _ => DD
  rename Addr => fr
  dsimp only at DD
  have D1 := (DD.pick [4, 2, 1, 0, 3, 5, 6, 7] (by decide) rfl).put1 (x' := dictOf [⟨PyData.keyHash w.params (Str.ofString "__module__"), .str (Str.ofString "__module__") (tk' + 8), .str (Str.ofString "law_qw0044_01") tnm⟩, ⟨PyData.keyHash w.params (Str.ofString "__qualname__"), .str (Str.ofString "__qualname__") (tk' + 10), .str KQ (tk' + 9)⟩, ⟨PyData.keyHash w.params (Str.ofString "__firstlineno__"), .str (Str.ofString "__firstlineno__") (tk' + 12), .int 40 (tk' + 11)⟩] 3) (by kernel_rfl)
  clear DD
  refine x_callE (c' := .body (clsBody (clsSt w)) (kEnv w _ fr _ (L' + 1) (Str.ofString "cmp_to_key.<locals>.K."))) ?e (body_K hST ?hco D1 ?fin) ?nb
  case nb => intro h; cases h
  case e => kernel_rfl
  case hco => exact ⟨_, _, _, _, _, _, _, _, rfl, rfl, rfl, rfl, rfl, rfl, rfl, rfl⟩
  case fin =>
    intro f2 f3 f4 f5 f6 f7 c2 c3 c4 c5 c6 c7 sl oc2 oc3 oc4 oc5 oc6 oc7 fd4 fd5 fd6 fd7 d2 d3 p2 p3 ct2 ct3 u1 u2 u3 u4 w2 w3 w4 w5 w6 w7 tbl h2 tk2 DB ho2 ho3
    clear D1
    (with_reducible refine k_pure' (by assumption) ?_)
    (with_reducible refine k_bind ?_; intro K' c')
    with_reducible refine wpAny_onRaise ?_
    with_reducible apply fuse
    · intro K' c'
      ((fail_if_success (with_reducible show wpAny _ _ (storeName _ (Str.ofString "K") _) _ _ _)); (fail_if_success (with_reducible show wpAny _ _ (execs _ _) _ _ _)); k_node)
      ((with_reducible show wpAny _ _ (List.mapM.loop _ _ _) _ _ _); k_dflt (first | refine h_free (l := [Str.ofString "mycmp"]) (by kernel_rfl) ?_ | refine h_free (l := []) (by kernel_rfl) ?_ | refine h_ml_nil ?_ | refine h_ml_cons ?_))
      ((fail_if_success (with_reducible show wpAny _ _ (storeName _ (Str.ofString "K") _) _ _ _)); (fail_if_success (with_reducible show wpAny _ _ (execs _ _) _ _ _)); k_node)
      with_reducible apply fuse
      · intro K' c'
        ((fail_if_success (with_reducible show wpAny _ _ (storeName _ (Str.ofString "K") _) _ _ _)); (fail_if_success (with_reducible show wpAny _ _ (execs _ _) _ _ _)); k_node)
        with_reducible refine h_fresh ?_
        exact nd_pure c'
      ((fail_if_success (with_reducible show wpAny _ _ (storeName _ (Str.ofString "K") _) _ _ _)); (fail_if_success (with_reducible show wpAny _ _ (execs _ _) _ _ _)); k_node)
      ((fail_if_success (with_reducible show wpAny _ _ (storeName _ (Str.ofString "K") _) _ _ _)); (fail_if_success (with_reducible show wpAny _ _ (execs _ _) _ _ _)); k_node)
      ((with_reducible show wpAny _ _ (List.mapM.loop _ _ _) _ _ _); k_dflt (first | refine h_free (l := [Str.ofString "mycmp"]) (by kernel_rfl) ?_ | refine h_free (l := []) (by kernel_rfl) ?_ | refine h_ml_nil ?_ | refine h_ml_cons ?_))
      exact c'
    with_reducible apply fuseA
    · intro K' c'
      ((fail_if_success (with_reducible show wpAny _ _ (storeName _ (Str.ofString "K") _) _ _ _)); (fail_if_success (with_reducible show wpAny _ _ (execs _ _) _ _ _)); k_node)
      ((fail_if_success (with_reducible show wpAny _ _ (storeName _ (Str.ofString "K") _) _ _ _)); (fail_if_success (with_reducible show wpAny _ _ (execs _ _) _ _ _)); k_node)
      with_reducible apply fuseA
      · intro K' c'
        ((fail_if_success (with_reducible show wpAny _ _ (storeName _ (Str.ofString "K") _) _ _ _)); (fail_if_success (with_reducible show wpAny _ _ (execs _ _) _ _ _)); k_node)
        (with_reducible refine h_alloc (by assumption) rfl ?_; intro a' h' D')
        exact nd_pure (c' a' h' D')
      intro a' h' D'
      exact wpAny_pure (c' a' h' D')
    intro a' h' D'
    with_reducible apply fuseC
    · intro K' c'
      ((fail_if_success (with_reducible show wpAny _ _ (storeName _ (Str.ofString "K") _) _ _ _)); (fail_if_success (with_reducible show wpAny _ _ (execs _ _) _ _ _)); k_node)
      ((fail_if_success (with_reducible show wpAny _ _ (storeName _ (Str.ofString "K") _) _ _ _)); (fail_if_success (with_reducible show wpAny _ _ (execs _ _) _ _ _)); k_node)
      ((fail_if_success (with_reducible show wpAny _ _ (storeName _ (Str.ofString "K") _) _ _ _)); (fail_if_success (with_reducible show wpAny _ _ (execs _ _) _ _ _)); k_node)
      ((fail_if_success (with_reducible show wpAny _ _ (storeName _ (Str.ofString "K") _) _ _ _)); (fail_if_success (with_reducible show wpAny _ _ (execs _ _) _ _ _)); k_node)
      ((fail_if_success (with_reducible show wpAny _ _ (storeName _ (Str.ofString "K") _) _ _ _)); (fail_if_success (with_reducible show wpAny _ _ (execs _ _) _ _ _)); k_node)
      ((fail_if_success (with_reducible show wpAny _ _ (storeName _ (Str.ofString "K") _) _ _ _)); (fail_if_success (with_reducible show wpAny _ _ (execs _ _) _ _ _)); k_node)
      with_reducible apply fuse
      · intro K' c'
        ((fail_if_success (with_reducible show wpAny _ _ (storeName _ (Str.ofString "K") _) _ _ _)); (fail_if_success (with_reducible show wpAny _ _ (execs _ _) _ _ _)); k_node)
        ((with_reducible show wpAny _ _ (Sem.load _ _ _) _ _ _); k_dflt (refine' h_new ?D ?m ?_); (case D => assumption); (case m => k_mem); (try dsimp only))
        exact nd_pure c'
      ((fail_if_success (with_reducible show wpAny _ _ (storeName _ (Str.ofString "K") _) _ _ _)); (fail_if_success (with_reducible show wpAny _ _ (execs _ _) _ _ _)); k_node)
      ((with_reducible show wpAny _ _ (nsSet _ _ _) _ _ _); k_dflt (refine' h_nsSet ?D ?m ?k ?e ?u ?_); (case D => assumption); (case m => k_mem); (case k => rfl); (case e => k_put); (case u => k_all); intro h' D')
      exact c' h' D'
    intro h' D'
    ((fail_if_success (with_reducible show wpAny _ _ (storeName _ (Str.ofString "K") _) _ _ _)); (fail_if_success (with_reducible show wpAny _ _ (execs _ _) _ _ _)); k_node)
    ((fail_if_success (with_reducible show wpAny _ _ (storeName _ (Str.ofString "K") _) _ _ _)); (fail_if_success (with_reducible show wpAny _ _ (execs _ _) _ _ _)); k_node)
    ((fail_if_success (with_reducible show wpAny _ _ (storeName _ (Str.ofString "K") _) _ _ _)); (fail_if_success (with_reducible show wpAny _ _ (execs _ _) _ _ _)); k_node)
    (with_reducible refine k_ret (by assumption) ?_)
    ((fail_if_success (with_reducible show wpAny _ _ (storeName _ (Str.ofString "K") _) _ _ _)); (fail_if_success (with_reducible show wpAny _ _ (execs _ _) _ _ _)); k_node)
    ((fail_if_success (with_reducible show wpAny _ _ (storeName _ (Str.ofString "K") _) _ _ _)); (fail_if_success (with_reducible show wpAny _ _ (execs _ _) _ _ _)); k_node)
    (with_reducible refine k_bind ?_; intro K' c')
    ((fail_if_success (with_reducible show wpAny _ _ (storeName _ (Str.ofString "K") _) _ _ _)); (fail_if_success (with_reducible show wpAny _ _ (execs _ _) _ _ _)); k_node)
    ((fail_if_success (with_reducible show wpAny _ _ (storeName _ (Str.ofString "K") _) _ _ _)); (fail_if_success (with_reducible show wpAny _ _ (execs _ _) _ _ _)); k_node)
    (with_reducible refine k_bind ?_; intro K' c')
    ((fail_if_success (with_reducible show wpAny _ _ (storeName _ (Str.ofString "K") _) _ _ _)); (fail_if_success (with_reducible show wpAny _ _ (execs _ _) _ _ _)); k_node)
    rename Mm _ _ _ => DS
    refine x_call (type_call (type_new hST (DS.pick [0, 1, 3, 5, 7, 9, 11, 13, 14, 20, 2, 4, 6, 8, 10, 12, 15, 16, 17, 18, 19, 21] (by decide) rfl) ?fin2)) ?nb2
    case nb2 => intro h; cases h
    case fin2 =>
      intro K md ns2 ll tm t8 t9 h3 tk3 DK
      refine ⟨K, _, rfl, DK.get (.tail _ (.head _)), rfl, ?_⟩
      clear DS
      (with_reducible refine k_pure' (by assumption) ?_)
      (with_reducible refine k_pure (by assumption) ?_)
      (with_reducible refine k_pure (by assumption) ?_)
      with_reducible apply fuse
      · intro K' c'
        first | (exact wpAny_pure c') | (k_node; exact wpAny_pure c')
      with_reducible apply fuse
      · intro K' c'
        with_reducible refine wpAny_standAt ?_
        exact c'
      (with_reducible refine k_bind ?_; intro K' c')
      ((fail_if_success (with_reducible show wpAny _ _ (storeName _ (Str.ofString "K") _) _ _ _)); (fail_if_success (with_reducible show wpAny _ _ (execs _ _) _ _ _)); k_node)
      with_reducible apply fuse
      · intro K' c'
        with_reducible refine wpAny_holding ?_
        first | (exact nd_pure c') | (k_node; exact nd_pure c') | (k_node; k_node; exact nd_pure c')
      (with_reducible refine k_bind ?_; intro K' c')
      refine k_open (by assumption) ?_
      obtain ⟨F3, N3⟩ := mm_back F' hP h107 h107L DK
      refine wpAny_storeName_local (m := _) rfl F3.ns (fun h4 hn4 hs4 => ?_) rfl
      have F4 := F3.set hn4 hs4
      have N4 := N3.set hs4
      have NC := N' (_, _) (.head _)
      have hcl4 : h4.get? (L' + 1) = _ := (hs4.2 _ NC.2.1).trans (DK.keep _ _ ((hP _ _).mpr ⟨NC.1, fun e => by
        have e2 := (N' (107, tabObj #[]) (by k_mem)).1
        rw [← e, NC.1] at e2; cases e2; rename Obj.data _ = _ => hcd; cases hcd⟩))
      have e107 := (N4 (107, _) (by k_mem)).1
      rename Obj.data _ = _ => hcd
      obtain ⟨vs2, tq2, hv2, hq2⟩ := ho2
      obtain ⟨vs3, tq3, ⟨hv3, _⟩, hq3⟩ := ho3
      have kis : KIs w h4 K lam := ⟨⟨ns2, md, _, f2, f3, f4, f5, f6, f7, sl, _, c2, c3, L' + 1, _, fr, _, _, _, _, _, _, _, _, _, _, _, _, _, _, _, _, _, _, _, _, _, _, _, _, _, _, _, _⟩, (N4 (K, kObjC K ns2 _ _ _) (by k_mem)).1, (N4 (ns2, _) (by k_mem)).1, (N4 (md, mdObj K _) (by k_mem)).1, (N4 (f2, _) (by k_mem)).1, (N4 (f3, _) (by k_mem)).1, ⟨oc2, vs2, tq2, (N4 (c2, oc2) (by k_mem)).1, hv2, hq2⟩, ⟨c3, oc3, vs3, tq3, rfl, (N4 (c3, oc3) (by k_mem)).1, hv3, hq3⟩, hcl4, by rw [hcd]; rfl⟩
      clear DK D0 F3 N3
      ((fail_if_success (with_reducible show wpAny _ _ (storeName _ (Str.ofString "K") _) _ _ _)); (fail_if_success (with_reducible show wpAny _ _ (execs _ _) _ _ _)); k_node)
      ((fail_if_success (with_reducible show wpAny _ _ (storeName _ (Str.ofString "K") _) _ _ _)); (fail_if_success (with_reducible show wpAny _ _ (execs _ _) _ _ _)); k_node)
      (with_reducible refine k_pure' (by assumption) ?_)
      ((fail_if_success (with_reducible show wpAny _ _ (storeName _ (Str.ofString "K") _) _ _ _)); (fail_if_success (with_reducible show wpAny _ _ (execs _ _) _ _ _)); k_node)
      ((fail_if_success (with_reducible show wpAny _ _ (storeName _ (Str.ofString "K") _) _ _ _)); (fail_if_success (with_reducible show wpAny _ _ (execs _ _) _ _ _)); k_node)
      k_steps
      exact fun kS => h K h4 _ _ kS e107 kis
end
end Mine
end

section
open PySem PySem.W PyProof.Rows
namespace Mine
local macro_rules | `(tactic| walk_at "no goal") => `(tactic| skip)
theorem freshS2 : True ∧ True := by
  k_with_none
  w_top off
  first | (walk1; done) | exact ⟨trivial, trivial⟩
end Mine
end

/-! part S2 -/
section
open PySem PySem.W PyProof.Rows
set_option maxRecDepth 100000
namespace Mine
/-- what a sort's questions come to, each answered by cmp; all places that are asked lie below n -/
def All {α : Type} (cmp : Nat → Nat → Bool) (n : Nat) : KasT α → (α → Prop) → Prop
  | .ret a, G => G a
  | .ask i j k, G => i < n ∧ j < n ∧ All cmp n (k (cmp i j)) G
theorem All.bind {α β : Type} {cmp : Nat → Nat → Bool} {n : Nat} {f : α → KasT β} {G : β → Prop} : ∀ (t : KasT α), All cmp n t (fun a => All cmp n (f a) G) → All cmp n (t.bind f) G
  | .ret _, h => h
  | .ask _ _ k, h => ⟨h.1, h.2.1, All.bind (k _) h.2.2⟩
theorem All.mono {α : Type} {cmp : Nat → Nat → Bool} {n : Nat} {G G' : α → Prop} (hg : ∀ a, G a → G' a) : ∀ (t : KasT α), All cmp n t G → All cmp n t G'
  | .ret a, h => hg a h
  | .ask _ _ k, h => ⟨h.1, h.2.1, All.mono hg (k _) h.2.2⟩
theorem All.wp {α : Type} {cmp : Nat → Nat → Bool} {n : Nat} {kc : Nat → Nat → (Bool → Shared → Prop) → Shared → Prop} {Inv : Shared → Prop} (step : ∀ i j s C, i < n → j < n → Inv s → (∀ s', Inv s' → C (cmp i j) s') → kc i j C s) {G : α → Prop} {Q : α → Shared → Prop} (fin : ∀ a s', G a → Inv s' → Q a s') :
    ∀ (t : KasT α) (s : Shared), All cmp n t G → Inv s → t.kasWp kc Q s
  | .ret a, s, h, hi => fin a s h hi
  | .ask i j k, s, h, hi => step i j s _ h.1 h.2.1 hi fun s' hi' => All.wp step fin (k _) s' h.2.2 hi'
section
variable (d : Nat → Int) (n : Nat)
/-- the order: by depth, equal ones as they stand -/
def Bef (i j : Nat) : Prop := d i < d j ∨ (d i = d j ∧ i < j)
def cmpD (i j : Nat) : Bool := decide (d i < d j)
abbrev at_ (p : Array Nat) (k : Nat) : Nat := p.getD k 0
structure Pre (p : Array Nat) (m : Nat) : Prop where
  size : p.size = n
  low : ∀ k, k < m → at_ p k < m
  id_ : ∀ k, m ≤ k → k < n → at_ p k = k
  perm : p.toList.Perm (List.range n)
structure Srt (p : Array Nat) (m : Nat) : Prop extends Pre n p m where
  srt : ∀ i j, i < j → j < m → Bef d (at_ p i) (at_ p j)
structure Dsc (p : Array Nat) (m b : Nat) : Prop extends Pre n p m where
  one : ∀ i j, i < j → j < b → Bef d (at_ p j) (at_ p i)
  two : ∀ i j, i < b → b ≤ j → j < m → d (at_ p j) < d (at_ p i)
  three : ∀ i j, b ≤ i → i < j → j < m → d (at_ p i) = d (at_ p j) ∧ at_ p i < at_ p j
end
section
variable {d : Nat → Int} {n : Nat} {p : Array Nat} {m b : Nat}
theorem getD_eq {p q : Array Nat} {k i : Nat} (h : p[k]? = q[i]?) : at_ p k = at_ q i := by
  unfold at_
  rw [Array.getD_eq_getD_getElem?, Array.getD_eq_getD_getElem?, h]
theorem rev_at {i j : Nat} (hj : j ≤ p.size) (k : Nat) : at_ (kas_rev p i j) k = if i ≤ k ∧ k < j then at_ p (i + j - 1 - k) else at_ p k := by
  have h := getElem?_mirror_all (xs := p) (i := i) hj k
  by_cases hk : i ≤ k ∧ k < j
  · rw [if_pos hk] at h ⊢; exact getD_eq h
  · rw [if_neg hk] at h ⊢; exact getD_eq h
theorem rev_perm {i j : Nat} (h : p.toList.Perm (List.range n)) : (kas_rev p i j).toList.Perm (List.range n) := (Array.perm_iff_toList_perm.mp (mirror_perm _ _ _ _)).trans h
theorem bub_at {k l : Nat} (hk : k < p.size) (hl : l ≤ k) (x : Nat) : at_ (bubble p k (k - l)) x = if x = l then at_ p k else if l < x ∧ x ≤ k then at_ p (x - 1) else at_ p x := by
  have h := getElem?_bubble hk (k - l) (by grind) x
  rw [show k - (k - l) = l by grind] at h
  by_cases e1 : x = l
  · rw [if_pos e1] at h ⊢; exact getD_eq h
  · rw [if_neg e1] at h ⊢
    by_cases e2 : l < x ∧ x ≤ k
    · rw [if_pos e2] at h ⊢; exact getD_eq h
    · rw [if_neg e2] at h ⊢; exact getD_eq h
theorem bub_perm {k l : Nat} (h : p.toList.Perm (List.range n)) : (bubble p k l).toList.Perm (List.range n) := (Array.perm_iff_toList_perm.mp (bubble_perm _ _ _)).trans h
theorem Pre.more (h : Pre n p m) (hm : m < n) : Pre n p (m + 1) :=
  ⟨h.size, fun k hk => by
    by_cases e : k = m
    · subst e; rw [h.id_ k (Nat.le_refl _) hm]; exact Nat.lt_succ_self _
    · exact Nat.lt_succ_of_lt (h.low k (by grind)), fun k hk hn => h.id_ k (by grind) hn, h.perm⟩
theorem Pre.rev (h : Pre n p m) (hm : m ≤ n) {i : Nat} (hi : i ≤ m) : Pre n (kas_rev p i m) m := by
  refine ⟨(kas_rev_size _ _).trans h.size, fun k hk => ?_, fun k hk hn => ?_, rev_perm h.perm⟩
  · rw [rev_at (by rw [h.size]; exact hm)]
    split
    · exact h.low _ (by grind)
    · exact h.low _ hk
  · rw [rev_at (by rw [h.size]; exact hm), if_neg (by grind)]
    exact h.id_ k hk hn
theorem Srt.le (h : Srt d n p m) {i j : Nat} (hij : i ≤ j) (hj : j < m) : d (at_ p i) ≤ d (at_ p j) := by
  by_cases e : i = j
  · subst e; exact Int.le_refl _
  · rcases h.srt i j (by grind) hj with q | q
    · exact Int.le_of_lt q
    · exact Int.le_of_eq q.1
theorem Srt.more (h : Srt d n p m) (h1 : 1 ≤ m) (hm : m < n) (hd : d (at_ p (m - 1)) ≤ d m) : Srt d n p (m + 1) := by
  refine ⟨h.toPre.more hm, fun i j hij hj => ?_⟩
  by_cases e : j = m
  · subst e
    rw [h.id_ j (Nat.le_refl _) hm]
    have h1 := h.le (i := i) (j := j - 1) (by grind) (by grind)
    have h2 := h.low i hij
    unfold Bef
    by_cases q : d (at_ p i) = d j
    · exact .inr ⟨q, h2⟩
    · exact .inl (by grind)
  · exact h.srt i j hij (by grind)
theorem asc_all {nrem : Nat} (hn : nrem = n) : ∀ (f m : Nat), 1 ≤ m → m + f = nrem → Srt d n p m → ∀ {G : Nat → Prop}, (∀ m', m ≤ m' → m' ≤ nrem → Srt d n p m' → (m' < nrem → d m' < d (at_ p (m' - 1))) → G m') → All (cmpD d) n (kas_asc p f m) G
  | 0, m, h1, hm, h, G, hG => hG m (Nat.le_refl _) (by grind) h (fun q => by grind)
  | f + 1, m, h1, hm, h, G, hG => by
    have hmn : m < n := by grind
    have e1 := h.id_ m (Nat.le_refl _) hmn
    have e2 := h.low (m - 1) (by grind)
    refine ⟨by show at_ p m < n; rw [e1]; exact hmn, by show at_ p (m - 1) < n; grind, ?_⟩
    show All _ _ (if cmpD d (at_ p m) (at_ p (m - 1)) = true then _ else _) _
    rw [e1]
    unfold cmpD
    by_cases c : d m < d (at_ p (m - 1))
    · rw [if_pos (decide_eq_true c)]
      exact hG m (Nat.le_refl _) (by grind) h fun _ => c
    · rw [if_neg (by simpa using c)]
      exact asc_all hn f (m + 1) (by grind) (by grind) (h.more h1 hmn (by grind)) fun m' a b => hG m' (by grind) b
theorem Dsc.fix (h : Dsc d n p m b) (hm : m ≤ n) (hb : b ≤ m) : (∀ i j, i < j → j < m → Bef d (at_ (kas_rev p b m) j) (at_ (kas_rev p b m) i)) ∧ Pre n (kas_rev p b m) m := by
  refine ⟨fun i j hij hj => ?_, h.toPre.rev hm hb⟩
  have hs : m ≤ p.size := by rw [h.size]; exact hm
  rw [rev_at hs, rev_at hs]
  by_cases c1 : b ≤ i
  · rw [if_pos ⟨by grind, hj⟩, if_pos ⟨c1, by grind⟩]
    have q := h.three (b + m - 1 - j) (b + m - 1 - i) (by grind) (by grind) (by grind)
    exact .inr q
  · rw [if_neg (c := b ≤ i ∧ i < m) (by grind)]
    by_cases c2 : b ≤ j
    · rw [if_pos ⟨c2, hj⟩]
      exact .inl (h.two i _ (by grind) (by grind) (by grind))
    · rw [if_neg (by grind)]
      exact h.one i j hij (by grind)
/-- a last group turned round -/
theorem Dsc.turned (h : Dsc d n p m b) (hm : m ≤ n) (hb : b < m) (hb1 : b + 1 ≤ m) : (∀ i j, i < j → j < m → Bef d (at_ (if m - b - 1 > 0 then kas_rev p b m else p) j) (at_ (if m - b - 1 > 0 then kas_rev p b m else p) i)) ∧ Pre n (if m - b - 1 > 0 then kas_rev p b m else p) m := by
  by_cases c : m - b - 1 > 0
  · rw [if_pos c]; exact h.fix hm (by grind)
  · rw [if_neg c]
    refine ⟨fun i j hij hj => ?_, h.toPre⟩
    by_cases e : j < b
    · exact h.one i j hij e
    · exact .inl (h.two i j (by grind) (by grind) hj)
theorem dsc_next {p : Array Nat} (hp : Pre n p m) (hd : ∀ i j, i < j → j < m → Bef d (at_ p j) (at_ p i)) (h1 : 1 ≤ m) (hm : m < n) (hlt : d m < d (at_ p (m - 1))) : Dsc d n p (m + 1) m := by
  refine ⟨hp.more hm, fun i j hij hj => hd i j hij hj, fun i j hi hj hj2 => ?_, fun i j hi hij hj => by grind⟩
  have e : j = m := by grind
  subst e
  rw [hp.id_ j (Nat.le_refl _) hm]
  by_cases q : i = j - 1
  · subst q; exact hlt
  · have := hd i (j - 1) (by grind) (by grind)
    unfold Bef at this
    grind
theorem desc_all {nrem : Nat} (hn : nrem = n) : ∀ (f : Nat) (p : Array Nat) (m q : Nat), q + 1 ≤ m → m + f = nrem → Dsc d n p m (m - (q + 1)) → ∀ {G : Array Nat × Nat × Nat → Prop},
    (∀ p' m' q', m ≤ m' → m' ≤ nrem → q' + 1 ≤ m' → Dsc d n p' m' (m' - (q' + 1)) → G (p', m', q')) → All (cmpD d) n (kas_desc f p m q) G
  | 0, p, m, q, hq, hm, h, G, hG => hG p m q (Nat.le_refl _) (by grind) hq h
  | f + 1, p, m, q, hq, hm, h, G, hG => by
    have hmn : m < n := by grind
    have e1 := h.id_ m (Nat.le_refl _) hmn
    have e2 := h.low (m - 1) (by grind)
    have k1 : at_ p m < n := by rw [e1]; exact hmn
    have k2 : at_ p (m - 1) < n := by grind
    refine ⟨k1, k2, ?_⟩
    show All _ _ (if cmpD d (at_ p m) (at_ p (m - 1)) = true then _ else _) _
    rw [e1]
    unfold cmpD
    by_cases c : d m < d (at_ p (m - 1))
    · rw [if_pos (decide_eq_true c)]
      have key := h.turned (by grind) (by grind) (by grind)
      rw [show m - (m - (q + 1)) - 1 = q by grind] at key
      have last : at_ (if q > 0 then kas_rev p (m - (q + 1)) m else p) (m - 1) = at_ p (if q > 0 then m - (q + 1) else m - 1) := by
        by_cases z : q > 0
        · rw [if_pos z, if_pos z, rev_at (by rw [h.size]; grind), if_pos ⟨by grind, by grind⟩]; congr 1; grind
        · rw [if_neg z, if_neg z]
      have eqd : d (at_ p (if q > 0 then m - (q + 1) else m - 1)) = d (at_ p (m - 1)) := by
        by_cases z : q > 0
        · rw [if_pos z]; exact (h.three (m - (q + 1)) (m - 1) (Nat.le_refl _) (by grind) (by grind)).1
        · rw [if_neg z]
      have nx := dsc_next key.2 key.1 (by grind) hmn (by rw [last, eqd]; exact c)
      by_cases z : q > 0
      · rw [if_pos z] at nx ⊢
        exact desc_all hn f _ (m + 1) 0 (by grind) (by grind) nx fun p' m' q' a => hG p' m' q' (by grind)
      · rw [if_neg z] at nx ⊢
        exact desc_all hn f _ (m + 1) 0 (by grind) (by grind) nx fun p' m' q' a => hG p' m' q' (by grind)
    · rw [if_neg (by simpa using c)]
      refine ⟨k2, k1, ?_⟩
      show All _ _ (if decide (d (at_ p (m - 1)) < d (at_ p m)) = true then _ else _) _
      rw [e1]
      by_cases c2 : d (at_ p (m - 1)) < d m
      · rw [if_pos (decide_eq_true c2)]
        exact hG p m q (Nat.le_refl _) (by grind) hq h
      · rw [if_neg (by simpa using c2)]
        have eqm : d (at_ p (m - 1)) = d m := by grind
        refine desc_all hn f p (m + 1) (q + 1) (by grind) (by grind) ⟨h.toPre.more hmn, fun i j hij hj => h.one i j hij (by grind), fun i j hi hj hj2 => ?_, fun i j hi hij hj => ?_⟩ fun p' m' q' a => hG p' m' q' (by grind)
        · by_cases e : j = m
          · subst e; rw [e1, ← eqm]; exact h.two i _ (by grind) (by grind) (by grind)
          · exact h.two i j (by grind) (by grind) (by grind)
        · by_cases e : j = m
          · subst e
            rw [e1, ← eqm]
            refine ⟨?_, h.low i (by grind)⟩
            by_cases e' : i = j - 1
            · subst e'; rfl
            · exact (h.three i (j - 1) (by grind) (by grind) (by grind)).1
          · exact h.three i j (by grind) hij (by grind)
theorem whole_rev {p : Array Nat} (hp : Pre n p m) (hm : m ≤ n) (hd : ∀ i j, i < j → j < m → Bef d (at_ p j) (at_ p i)) : Srt d n (kas_rev p 0 m) m := by
  refine ⟨hp.rev hm (Nat.zero_le _), fun i j hij hj => ?_⟩
  rw [rev_at (by rw [hp.size]; exact hm), rev_at (by rw [hp.size]; exact hm), if_pos ⟨Nat.zero_le _, by grind⟩, if_pos ⟨Nat.zero_le _, hj⟩]
  exact hd _ _ (by grind) (by grind)
theorem tail3_all {nrem : Nat} (hn : nrem = n) {p : Array Nat} (h1 : 1 ≤ m) (hm : m ≤ nrem) (hp : Pre n p m) (hd : ∀ i j, i < j → j < m → Bef d (at_ p j) (at_ p i)) {G : Nat × Array Nat → Prop} (hG : ∀ m' p', 1 ≤ m' → m' ≤ nrem → Srt d n p' m' → G (m', p')) : All (cmpD d) n (kas_tail3 m nrem p) G :=
  All.bind _ (asc_all hn (nrem - m) m h1 (by grind) (whole_rev hp (by grind) hd) fun m' a b c _ => hG m' _ (by grind) b c)
theorem descPart_all {nrem : Nat} (hn : nrem = n) {p : Array Nat} (h1 : 1 ≤ m) (hm : m < nrem) (hp : Pre n p m) (hd : ∀ i j, i < j → j < m → Bef d (at_ p j) (at_ p i)) (hlt : d m < d (at_ p (m - 1))) {G : Nat × Array Nat → Prop} (hG : ∀ m' p', 1 ≤ m' → m' ≤ nrem → Srt d n p' m' → G (m', p')) : All (cmpD d) n (kas_descPart m nrem p) G := by
  refine All.bind _ (desc_all hn (nrem - (m + 1)) p (m + 1) 0 (by grind) (by grind) (dsc_next hp hd h1 (by grind) hlt) fun p' m' q' a b c e => ?_)
  dsimp only
  have key := e.turned (by grind) (by grind) (by grind)
  rw [show m' - (m' - (q' + 1)) - 1 = q' by grind] at key
  by_cases z : q' > 0
  · rw [if_pos z] at key ⊢
    exact tail3_all hn (by grind) b key.2 key.1 hG
  · rw [if_neg z] at key ⊢
    exact tail3_all hn (by grind) b key.2 key.1 hG
theorem count_all {nrem : Nat} (hn : nrem = n) {p : Array Nat} (h2 : 2 ≤ nrem) (hp : Srt d n p 1) {G : Nat × Array Nat → Prop} (hG : ∀ m' p', 1 ≤ m' → m' ≤ nrem → Srt d n p' m' → G (m', p')) : All (cmpD d) n (kas_count nrem p) G := by
  refine All.bind _ (asc_all hn (nrem - 1) 1 (Nat.le_refl _) (by grind) hp fun m a b h hlt => ?_)
  by_cases e1 : (m == nrem) = true
  · rw [if_pos e1]
    exact hG m p a b h
  · rw [if_neg e1]
    have hm : m < nrem := by
      have : m ≠ nrem := fun q => e1 (by rw [q]; exact beq_self_eq_true _)
      grind
    by_cases e2 : m > 1
    · rw [if_pos e2]
      have l0 := h.low 0 (by grind)
      have l1 := h.low (m - 1) (by grind)
      refine ⟨by show at_ p 0 < n; grind, by show at_ p (m - 1) < n; grind, ?_⟩
      show All _ _ (if cmpD d (at_ p 0) (at_ p (m - 1)) = true then _ else _) _
      unfold cmpD
      by_cases c : d (at_ p 0) < d (at_ p (m - 1))
      · rw [if_pos (decide_eq_true c)]
        exact hG m p a b h
      · rw [if_neg (by simpa using c)]
        have flat : ∀ i, i < m → d (at_ p i) = d (at_ p 0) := fun i hi => by
          have q1 := h.le (i := 0) (j := i) (Nat.zero_le _) hi
          have q2 := h.le (i := i) (j := m - 1) (by grind) (by grind)
          grind
        have hs : m ≤ p.size := by rw [h.size]; grind
        refine descPart_all hn a hm (h.toPre.rev (by grind) (Nat.zero_le _)) (fun i j hij hj => ?_) ?_ hG
        · rw [rev_at hs, rev_at hs, if_pos ⟨Nat.zero_le _, hj⟩, if_pos ⟨Nat.zero_le _, by grind⟩]
          exact h.srt _ _ (by grind) (by grind)
        · rw [rev_at hs, if_pos ⟨Nat.zero_le _, by grind⟩, show 0 + m - 1 - (m - 1) = 0 by grind, ← flat (m - 1) (by grind)]
          exact hlt hm
    · rw [if_neg e2]
      have e3 : m = 1 := by grind
      subst e3
      exact descPart_all hn (Nat.le_refl _) hm h.toPre (fun i j hij hj => by grind) (hlt hm) hG
theorem place_all {k : Nat} (hk : k < n) (h : Srt d n p k) : ∀ (f l r : Nat), l ≤ r → r ≤ k → r - l ≤ f → (∀ x, x < l → Bef d (at_ p x) k) → (∀ x, r ≤ x → x < k → Bef d k (at_ p x)) → ∀ {G : Nat → Prop},
    (∀ l', l' ≤ k → (∀ x, x < l' → Bef d (at_ p x) k) → (∀ x, l' ≤ x → x < k → Bef d k (at_ p x)) → G l') → All (cmpD d) n (kas_place p k f l r) G
  | 0, l, r, hlr, hr, hf, a, b, G, hG => hG l (by grind) a fun x hx => b x (by grind)
  | f + 1, l, r, hlr, hr, hf, a, b, G, hG => by
    unfold kas_place
    by_cases c : l ≥ r
    · rw [if_pos c]
      exact hG l (by grind) a fun x hx => b x (by grind)
    · rw [if_neg c]
      have e1 := h.id_ k (Nat.le_refl _) hk
      have e2 := h.low ((l + r) / 2) (by grind)
      refine ⟨by show at_ p k < n; grind, by show at_ p ((l + r) / 2) < n; grind, ?_⟩
      show All _ _ (if cmpD d (at_ p k) (at_ p ((l + r) / 2)) = true then _ else _) _
      rw [e1]
      unfold cmpD
      by_cases q : d k < d (at_ p ((l + r) / 2))
      · rw [if_pos (decide_eq_true q)]
        refine place_all hk h f l ((l + r) / 2) (by grind) (by grind) (by grind) a (fun x hx hx2 => .inl ?_) hG
        exact Int.lt_of_lt_of_le q (h.le hx hx2)
      · rw [if_neg (by simpa using q)]
        refine place_all hk h f ((l + r) / 2 + 1) r (by grind) hr (by grind) (fun x hx => ?_) b hG
        have le1 := h.le (i := x) (j := (l + r) / 2) (by grind) (by grind)
        have lo := h.low x (by grind)
        unfold Bef
        grind
theorem bin_all : ∀ (f : Nat) (p : Array Nat) (k : Nat), k + f = n → Srt d n p k → ∀ {G : Array Nat → Prop}, (∀ p', Srt d n p' n → G p') → All (cmpD d) n (kas_bin f p k) G
  | 0, p, k, hk, h, G, hG => hG p (by have e : k = n := by grind
                                      subst e; exact h)
  | f + 1, p, k, hk, h, G, hG => by
    have hkn : k < n := by grind
    refine All.bind _ (place_all hkn h k 0 k (Nat.zero_le _) (Nat.le_refl _) (by grind) (fun x hx => by grind) (fun x hx hx2 => by grind) fun l hl a b => ?_)
    have hs : k < p.size := by rw [h.size]; exact hkn
    have e1 := h.id_ k (Nat.le_refl _) hkn
    refine bin_all f _ (k + 1) (by grind) ⟨⟨(bubble_size _ _ _).trans h.size, fun x hx => ?_, fun x hx hx2 => ?_, bub_perm h.perm⟩, fun i j hij hj => ?_⟩ hG
    · rw [bub_at hs hl]
      by_cases c1 : x = l
      · rw [if_pos c1, e1]; exact Nat.lt_succ_self _
      · rw [if_neg c1]
        by_cases c2 : l < x ∧ x ≤ k
        · rw [if_pos c2]; exact Nat.lt_succ_of_lt (h.low _ (by grind))
        · rw [if_neg c2]; exact Nat.lt_succ_of_lt (h.low _ (by grind))
    · rw [bub_at hs hl, if_neg (by grind), if_neg (by grind)]
      exact h.id_ x (by grind) hx2
    · rw [bub_at hs hl, bub_at hs hl]
      by_cases c1 : i = l
      · rw [if_pos c1, if_neg (by grind), if_pos ⟨by grind, by grind⟩, e1]
        exact b _ (by grind) (by grind)
      · rw [if_neg c1]
        by_cases c2 : j = l
        · rw [if_neg (c := l < i ∧ i ≤ k) (by grind), if_pos c2, e1]
          exact a _ (by grind)
        · rw [if_neg c2]
          by_cases c3 : l < i
          · rw [if_pos ⟨c3, by grind⟩, if_pos ⟨by grind, by grind⟩]
            exact h.srt _ _ (by grind) (by grind)
          · rw [if_neg (c := l < i ∧ i ≤ k) (by grind)]
            by_cases c4 : l < j
            · rw [if_pos ⟨c4, by grind⟩]
              exact h.srt _ _ (by grind) (by grind)
            · rw [if_neg (by grind)]
              exact h.srt _ _ hij (by grind)
theorem range_at {i : Nat} (hi : i < n) : at_ (List.toArray (List.range n)) i = i := by simp [at_, Array.getD, hi]
/-- the sort's questions, answered by the depths, put the places in their order -/
theorem sort_all (h2 : 2 ≤ n) {G : Array Nat → Prop} (hG : ∀ p', p'.size = n → p'.toList.Perm (List.range n) → p'.toList.Pairwise (Bef d) → G p') : All (cmpD d) n (kas_sort n) G := by
  have fin : ∀ p', Srt d n p' n → G p' := fun p' h => hG p' h.size h.perm (by
    rw [List.pairwise_iff_getElem]
    intro i j hi hj hij
    have hi' : i < p'.size := by simpa using hi
    have hj' : j < p'.size := by simpa using hj
    have q := h.srt i j hij (by rw [← h.size]; exact hj')
    simpa [at_, Array.getD, hi', hj'] using q)
  refine All.bind _ (count_all rfl h2 ⟨⟨by simp, fun k hk => by rw [range_at (by grind)]; exact hk, fun k _ hk => range_at hk, by simp⟩, fun i j hij hj => by grind⟩ fun m p' a b h => ?_)
  dsimp only
  by_cases c : m < n
  · rw [if_pos c, show max m 1 = m by grind]
    exact bin_all (n - m) p' m (by grind) h fin
  · rw [if_neg c]
    have e : m = n := by grind
    subst e
    exact fin p' h
end
end Mine
end

section
open PySem PySem.W PyProof.Rows
namespace Mine
local macro_rules | `(tactic| walk_at "no goal") => `(tactic| skip)
theorem freshKX : True ∧ True := by
  k_with_none
  w_top off
  first | (walk1; done) | exact ⟨trivial, trivial⟩
end Mine
end

/-! part KX -/
section
open PySem PySem.W PySem.W.X PyProof.Rows PySem.Calls
set_option maxRecDepth 100000
set_option maxHeartbeats 4000000
namespace Mine
/-- an instance of K -/
abbrev kInst (K dx : Addr) (v : Value) : Obj := ⟨.ref K, some dx, .plain, #[some v]⟩
end Mine
end

section
open PySem PySem.W PyProof.Rows
namespace Mine
local macro_rules | `(tactic| walk_at "no goal") => `(tactic| skip)
theorem freshKL : True ∧ True := by
  k_with_none
  w_top off
  first | (walk1; done) | exact ⟨trivial, trivial⟩
end Mine
end

/-! part KL -/
section
open PySem PySem.W PySem.W.X PyProof.Rows PySem.Calls
set_option maxRecDepth 100000
set_option maxHeartbeats 4000000
namespace Mine
section
variable {K ns2 bt : Addr} {tn tv tm : Tok} {md : Addr} {Kf : Frag}
theorem kg_makes (hk : Kf.lookup K = some (kObjC K ns2 bt tn tv)) : makesIn Kf K = true := by
  unfold makesIn
  rw [hk]
  have e1 : specialIn Kf (.ref K) "__call__" = some (some (.builtin "type.__call__")) := by
    unfold specialIn typeIn
    dsimp only
    rw [hk]
    rfl
  have e2 : instIn Kf (.ref K) (.type "type") = some true := by
    unfold instIn typeIn
    dsimp only
    rw [hk]
    rfl
  dsimp only
  rw [e1, e2]
  simp
theorem kg_plain (hk : Kf.lookup K = some (kObjC K ns2 bt tn tv)) : plainOver Kf K = true := by
  unfold plainOver clsIn
  rw [hk]
  rfl
theorem kg_slot (hk : Kf.lookup K = some (kObjC K ns2 bt tn tv)) (hm : Kf.lookup md = some (mdObj K tm)) : slotIn Kf md K = some 0 := by
  unfold slotIn recIn clsIn
  rw [hk, hm]
  simp
theorem kg_type (hm : Kf.lookup md = some (mdObj K tm)) : typeIn Kf (.ref md) = some (.type "member_descriptor") := by
  unfold typeIn
  dsimp only
  rw [hm]
  rfl
theorem kg_takes (hm : Kf.lookup md = some (mdObj K tm)) : takesIn Kf (.ref md) = some true := by
  unfold takesIn
  have e1 : specialIn Kf (.ref md) (Str.ofString "__set__") = some (some (.builtin "member_descriptor.__set__")) := by
    unfold specialIn
    rw [kg_type hm]
    kernel_rfl
  rw [e1]
theorem kg_cls {Kf : Frag} {a : Addr} {o : Obj} (h : Kf.lookup a = some o) : typeIn Kf (.ref a) = some o.cls := by
  unfold typeIn
  dsimp only
  rw [h]
  rfl
end
section
variable {w : World} {A : Around} {E : Value → Shared → Prop} {s : Shared}
  {K ns2 md bt f2 f3 f4 f5 f6 f7 sl sa : Addr} {hh1 hh3 : Int} {t1 t3 u1 u2 w2 w3 w4 w5 w6 w7 u3 u5 t8 t9 tn tv tm : Tok} {v3 : Value}
theorem kf_in {h : Heap} {o1 o2 o3 : Obj} (h1 : h.get? K = some o1) (h2 : h.get? ns2 = some o2) (h3 : h.get? f3 = some o3) : Frag.In [(K, o1), (ns2, o2), (f3, o3)] h := by
  intro a o e
  simp only [List.lookup] at e
  split at e
  · rename_i q; rw [eq_of_beq q, ← Option.some.inj e]; exact h1
  · split at e
    · rename_i q; rw [eq_of_beq q, ← Option.some.inj e]; exact h2
    · split at e
      · rename_i q; rw [eq_of_beq q, ← Option.some.inj e]; exact h3
      · cases e
theorem kf_k {o1 o2 o3 : Obj} : List.lookup K [(K, o1), (ns2, o2), (f3, o3)] = some o1 := by simp [List.lookup]
theorem kf_n {o1 o2 o3 : Obj} (hne : ns2 ≠ K) : List.lookup ns2 [(K, o1), (ns2, o2), (f3, o3)] = some o2 := by
  have : (ns2 == K) = false := by simpa using hne
  simp [List.lookup, this]
theorem kf_f {o1 o2 o3 : Obj} (hne : f3 ≠ K) (hne2 : f3 ≠ ns2) : List.lookup f3 [(K, o1), (ns2, o2), (f3, o3)] = some o3 := by
  have a : (f3 == K) = false := by simpa using hne
  have b : (f3 == ns2) = false := by simpa using hne2
  simp [List.lookup, a, b]
theorem kf_find {Kf : Frag} {name : Str} {r : Option Value} (hk : Kf.lookup K = some (kObjC K ns2 bt tn tv)) (hn : Kf.lookup ns2 = some (dictOf (kNs w hh1 hh3 t1 t3 u1 u2 w2 w3 w4 w5 w6 w7 u3 u5 t8 t9 v3 sl sa f2 f3 f4 f5 f6 f7 md) 3))
    (h : (match ((kNs w hh1 hh3 t1 t3 u1 u2 w2 w3 w4 w5 w6 w7 u3 u5 t8 t9 v3 sl sa f2 f3 f4 f5 f6 f7 md).find? (·.key.isStr name)).map (·.val) with | some v => some v | none => fastBuiltinOwn "object" name) = r)
    (h2 : ((kNs w hh1 hh3 t1 t3 u1 u2 w2 w3 w4 w5 w6 w7 u3 u5 t8 t9 v3 sl sa f2 f3 f4 f5 f6 f7 md).any (·.refKey)) = false) :
    findIn Kf (.ref K) name = some r := by
  unfold findIn
  dsimp only
  rw [hk]
  dsimp only
  unfold alongIn ownIn
  dsimp only
  rw [hk]
  dsimp only
  unfold nsIn
  rw [hn]
  dsimp only [dictOf]
  simp only [h2, Bool.false_eq_true, if_false]
  revert h
  cases (kNs w hh1 hh3 t1 t3 u1 u2 w2 w3 w4 w5 w6 w7 u3 u5 t8 t9 v3 sl sa f2 f3 f4 f5 f6 f7 md).find? (·.key.isStr name) with
  | some e => intro h; subst h; rfl
  | none => 
    intro h
    dsimp only [Option.map] at h
    subst h
    dsimp only
    unfold alongIn ownIn
    dsimp only
    cases fastBuiltinOwn "object" name <;> rfl
theorem ne_obj {h : Heap} {a b : Addr} {o1 o2 : Obj} (h1 : h.get? a = some o1) (h2 : h.get? b = some o2) (ht : (match o1.data with | .cls _ => 0 | .dict _ _ => 1 | .func _ => 2 | _ => 3) ≠ (match o2.data with | .cls _ => 0 | .dict _ _ => 1 | .func _ => 2 | _ => 3)) : a ≠ b := fun e => by
  subst e
  rw [h1] at h2
  rw [Option.some.inj h2] at ht
  exact ht rfl
theorem getobj_K {x dx : Addr} {v : Value} {Q : Value → Shared → Prop} (hx : s.heap.get? x = some (kInst K dx v)) (hdx : s.heap.get? dx = some ⟨.type "dict", none, .dict #[] 0, #[]⟩)
    (hK : s.heap.get? K = some (kObjC K ns2 bt tn tv)) (hns : s.heap.get? ns2 = some (dictOf (kNs w hh1 hh3 t1 t3 u1 u2 w2 w3 w4 w5 w6 w7 u3 u5 t8 t9 v3 sl sa f2 f3 f4 f5 f6 f7 md) 3)) (hmd : s.heap.get? md = some (mdObj K tm))
    (hv : handedIn v = true) (fin : Q v { s with toks := s.toks + 1 }) :
    wpAny (model PySem.Challenge.pw_qw0044_01 w) A (getAttr (.ref x) (Str.ofString "obj") true) Q E s := by
  have n1 : ns2 ≠ K := ne_obj hns hK (show (1:Nat) ≠ 0 by decide)
  have n2 : md ≠ K := ne_obj hmd hK (show (3:Nat) ≠ 0 by decide)
  have n3 : md ≠ ns2 := ne_obj hmd hns (show (3:Nat) ≠ 1 by decide)
  obtain ⟨Kx, X, k1, k2, k4⟩ : ∃ Kx : Frag, Kx.In s.heap ∧ Kx.lookup K = some (kObjC K ns2 bt tn tv) ∧ Kx.lookup ns2 = some (dictOf (kNs w hh1 hh3 t1 t3 u1 u2 w2 w3 w4 w5 w6 w7 u3 u5 t8 t9 v3 sl sa f2 f3 f4 f5 f6 f7 md) 3) ∧ Kx.lookup md = some (mdObj K tm) :=
    ⟨_, kf_in hK hns hmd, kf_k, kf_n n1, kf_f n2 n3⟩
  have I : InstAt s.heap x (kInst K dx v) K (some ⟨.type "dict", none, .dict #[] 0, #[]⟩) := ⟨hx, rfl, rfl, hdx⟩
  have i1 : findIn Kx (.ref K) "__getattribute__" = some (some (.builtin "object.__getattribute__")) := kf_find k1 k2 (by kernel_rfl) (by kernel_rfl)
  have i2 : findIn Kx (.ref K) "__getattr__" = some none := kf_find k1 k2 (by kernel_rfl) (by kernel_rfl)
  have i3 : findIn Kx (.ref K) (Str.ofString "obj") = some (some (.ref md)) := kf_find k1 k2 (by kernel_rfl) (by kernel_rfl)
  have hc : isClsIn Kx K = true := by
    unfold isClsIn clsIn
    rw [k1]
    rfl
  have hg : plainGet Kx K (Str.ofString "obj") = true := by
    unfold plainGet
    rw [i1, i2]
    rfl
  have hn : specialIn Kx (.ref md) "__get__" = some (some (.builtin "member_descriptor.__get__")) := by
    unfold specialIn
    rw [kg_type k4]
    kernel_rfl
  have ht := kg_takes k4
  exact get_bind X I (plainGet_of hg).1 (findObj_data hc i3 hn ht) (plainGet_of hg).2 (wpAny_call (slot_get (s := { s with toks := s.toks + 1 }) X I (kg_slot k1 k4) rfl (handed_on hv fin)))
end
section
variable {prog : Program} {w : World} {A A₀ : Around} {s : Shared} {K : Frag} {L : Addr} {h₀ base : Heap} {m mg mb : Str → Option Value} {news : List (Addr × Obj)} {p : Program} {loose : List Str} {mean : ExcName → Option Value}
/-- a closure with a written ledger -/
theorem enter_X {env : Env} {outer : List Env} {R : Result → Shared → Prop} {name qual : Str} {params : Arguments} {body : List Stmt} {scope : Scope} {cl : List (Str × Addr)} {dV kV doc pm cdv ct : Value} {an : Option Addr} {fo : Obj} {f : Addr} {args : Args} {binds : List (Str × Value)}
    (B : Below A₀ base outer h₀) (F : Fr h₀ L s.heap m) (X₀ : K.In h₀) (N : News h₀ L s.heap news) (T : Top p loose mean mg mb h₀) (hA : A.frames = some (env :: outer)) (hf : env.frame = some L) (hke : env.scope.kind = .function)
    (ho : s.heap.get? f = some fo) (hd : fo.data = .func (fnX name qual params body scope cl dV kV doc pm an cdv ct)) (hcd : s.heap.CodeRec cdv qual) (hroom : A.depth < recursionLimit)
    (hbind : BindsTo s (fnX name qual params body scope cl dV kV doc pm an cdv ct) args binds) (hloc : ∀ y ∈ binds, scope.names.lookup y.1 = some .local)
    (h : ∀ g L' h₁, StaysBut news s.heap g → Fr h₀ L g m → Fr g L' h₁ (fun y => binds.reverse.lookup y) → News g L' h₁ news → Stays s.heap h₁ → Below A base (env :: outer) g → K.In g → Top p loose mean mg mb g →
      wpAny (model prog w) (A.deeper (envX qual scope L' f cdv cl)) (execs body (envX qual scope L' f cdv cl))
        (fun fl s' => LeaveK h₀ L m g (KeepN news s.heap R) (match fl with | .ret v => v | _ => .none) s')
        (fun e s' => wpAny (model prog w) (A.deeper (envX qual scope L' f cdv cl)) (leaving (envX qual scope L' f cdv cl) e) (fun _ s'' => R (.error e) s'') (fun e' s'' => R (.error e') s'') s')
        { s with heap := h₁, toks := s.toks + binds.length })
    (hco : scope.isCoroutine = false) (hgen : scope.isGenerator = false) (hk : scope.kind = .function)
    (hcell : ∀ x ∈ scope.names, x.2 ≠ .cell) : codeAny (model prog w) A (.call (.ref f) args) R s := by
  refine Classical.byContradiction fun hn9 => ?_
  obtain ⟨FG, BG, st, lv⟩ := groundX (R := R) B F N hA hf hke
  refine hn9 ?_
  clear hn9
  have kb : StaysBut news s.heap (hideAll s.heap (news.map (·.1))) := fun b o hb e => hideAll_get _ e hb
  refine codeAny_call_def (fd := fnX name qual params body scope cl dV kV doc pm an cdv ct) (body := body) (binds := binds) hroom ho hd (T.nolimit.keeps F.keep) hcd rfl hbind hcell hloc (fun h₁ hns hk₁ => ?_) hco hgen hk
  exact wpAny_mono (h _ s.heap.objs.size h₁ kb FG ⟨hns, fun b o e => hk₁ b o (of_hideAll _ e), Nat.le_of_eq (hideAll_size _ _)⟩
    (fun p hp => ⟨hk₁ _ _ (N p hp).1, Nat.ne_of_lt (Heap.lt_size (N p hp).1), hideAll_none _ (List.mem_map_of_mem hp)⟩) hk₁ BG (X₀.keeps st) (T.keeps st)) (fun fl s' hl => lv _ _ (leave_keepsN kb hl)) fun _ _ y => y
theorem enter_XE {env : Env} {outer : List Env} {R : Result → Shared → Prop} {name qual : Str} {params : Arguments} {body : Expr} {scope : Scope} {cl : List (Str × Addr)} {dV doc pm ctv : Value} {c' : Addr} {f : Addr} {args : Args} {binds : List (Str × Value)}
    (B : Below A₀ base outer h₀) (F : Fr h₀ L s.heap m) (X₀ : K.In h₀) (N : News h₀ L s.heap news) (T : Top p loose mean mg mb h₀) (hA : A.frames = some (env :: outer)) (hf : env.frame = some L) (hke : env.scope.kind = .function)
    (ho : s.heap.get? f = some (kdv_obj name qual params (.expr body) scope cl dV doc pm c' ctv)) (hcd : s.heap.CodeRec (.ref c') qual) (hroom : A.depth < recursionLimit)
    (hbind : BindsTo s (kdv_fn name qual params (.expr body) scope cl dV doc pm (.ref c') ctv) args binds) (hloc : ∀ y ∈ binds, scope.names.lookup y.1 = some .local)
    (h : ∀ g L' h₁, StaysBut news s.heap g → Fr h₀ L g m → Fr g L' h₁ (fun y => binds.reverse.lookup y) → News g L' h₁ news → Stays s.heap h₁ → Below A base (env :: outer) g → K.In g → Top p loose mean mg mb g →
      wpAny (model prog w) (A.deeper (envX qual scope L' f (.ref c') cl)) (eval body (envX qual scope L' f (.ref c') cl))
        (fun v s' => LeaveK h₀ L m g (KeepN news s.heap R) v s')
        (fun e s' => wpAny (model prog w) (A.deeper (envX qual scope L' f (.ref c') cl)) (leaving (envX qual scope L' f (.ref c') cl) e) (fun _ s'' => R (.error e) s'') (fun e' s'' => R (.error e') s'') s')
        { s with heap := h₁, toks := s.toks + binds.length })
    (hco : scope.isCoroutine = false) (hgen : scope.isGenerator = false) (hk : scope.kind = .function)
    (hcell : ∀ x ∈ scope.names, x.2 ≠ .cell) : codeAny (model prog w) A (.call (.ref f) args) R s := by
  refine Classical.byContradiction fun hn9 => ?_
  obtain ⟨FG, BG, st, lv⟩ := groundX (R := R) B F N hA hf hke
  refine hn9 ?_
  clear hn9
  have kb : StaysBut news s.heap (hideAll s.heap (news.map (·.1))) := fun b o hb e => hideAll_get _ e hb
  refine kla_callFunE hroom ho rfl hco hgen rfl hcd (hbind _ _ _ _ ?_)
  refine wpAny_newFunctionEnv hcell hloc (fun h₁ hns hsb => ⟨((T.nolimit).keeps F.keep).fresh _ hsb, ?_⟩) hk
  show codeAny _ _ (.expr body (envX qual scope s.heap.objs.size f (.ref c') cl)) _ _
  have hk₁ : ∀ b o, s.heap.get? b = some o → h₁.get? b = some o := fun b o e => hsb.extBut b o (Nat.ne_of_lt (Heap.lt_size e)) (Heap.get?_push_of_some _ e)
  exact kla_codeExpr (wpAny_mono (h _ s.heap.objs.size h₁ kb FG ⟨hns, fun b o e => hk₁ b o (of_hideAll _ e), Nat.le_of_eq (hideAll_size _ _)⟩
    (fun p hp => ⟨hk₁ _ _ (N p hp).1, Nat.ne_of_lt (Heap.lt_size (N p hp).1), hideAll_none _ (List.mem_map_of_mem hp)⟩) hk₁ BG (X₀.keeps st) (T.keeps st)) (fun v s' hl => lv _ _ (leave_keepsN kb hl)) fun _ _ y => y)
end
def ltOf (o : Option Obj) : Stmt := match o with
  | some ⟨_, _, .func fd, _⟩ => (match fd.body with | .stmts (.ClassDef _ _ _ (_ :: _ :: _ :: st :: _) _ _ _ _ _ _ _ :: _) => st | _ => .Pass default)
  | _ => .Pass default
end Mine
end

section
open PySem PySem.W PyProof.Rows
namespace Mine
local macro_rules | `(tactic| walk_at "no goal") => `(tactic| skip)
local macro_rules | `(tactic| walk_at "no goal") => `(tactic| skip)
theorem freshKLs : True ∧ True := by
  k_with_none
  w_top off
  first | (walk1; done) | exact ⟨trivial, trivial⟩
end Mine
end

/-! part KLs -/
section
open PySem PySem.W PySem.W.X PyProof.Rows PySem.Calls
set_option maxRecDepth 100000
set_option maxHeartbeats 4000000
namespace Mine
local macro_rules | `(tactic| walk_at $s:str) => `(tactic| k_extra $s)
theorem pick3 {w : World} {oc : Value} {od : Option Addr} {fd : FuncData} {os : Array (Option Value)} {r0 : List Stmt} {n1 : Str} {n2 : List Expr} {n3 : List Keyword} {s0 s1 s2 st : Stmt} {r1 : List Stmt} {c5 : List Expr} {c6 : List TypeParam} {c7 : Scope} {c8 : Option Scope} {c9 : Str} {c10 : List Str} {c11 : Pos}
    (h : (hd.heap_1 w.params).lookup 112 = some ⟨oc, od, .func fd, os⟩) (hb : fd.body = .stmts (.ClassDef n1 n2 n3 (s0 :: s1 :: s2 :: st :: r1) c5 c6 c7 c8 c9 c10 c11 :: r0)) : defSt w 3 = st := by
  unfold defSt clsSt clsOf
  rw [h]
  dsimp only
  rw [hb]
  rfl
/-- what the comparing function gives -/
def LamC (w : World) (pp : Program) (loose : List Str) (mean : ExcName → Option Value) (mg mb : Str → Option Value) (lam : Addr) (ns : List (Addr × Obj)) (c : Nat → Nat → Int) (n : Nat) (h1 : Heap) : Prop :=
  ∀ (A A₀ : Around) (base h₀ : Heap) (outer : List Env) (env : Env) (E : Value → Shared → Prop) (s : Shared) (L : Addr) (m : Str → Option Value) (Q : Value → Shared → Prop) (i j : Nat) (ti tj : Tok),
    i < n → j < n → Stays h1 s.heap → A.depth < 900 → A.handled = none → A.frames = some (env :: outer) → env.frame = some L → env.scope.kind = .function → Below A₀ base outer h₀ → Fr h₀ L s.heap m → (hd.heap_1 w.params).In h₀ → Top pp loose mean mg mb h₀ → News h₀ L s.heap ns →
    (∀ h' tk t, Stays s.heap h' → Q (.int (c i j) t) { s with heap := h', toks := tk }) → wpAny (model PySem.Challenge.pw_qw0044_01 w) A (PySem.call (.ref lam) [.int i ti, .int j tj]) Q E s
section
variable {w : World} {A₀ : Around} {base h₀ : Heap} {env : Env} {outer : List Env} {E : Value → Shared → Prop} {s : Shared} {L lam : Addr} {m mg mb : Str → Option Value} {pp : Program} {loose : List Str} {mean : ExcName → Option Value} {Q : Bool → Shared → Prop}
local macro_rules | `(tactic| k_room) => `(tactic| ((try simp only [depth_under_make, depth_under_kw, depth_in1, depth_deeper, depth_caller]); first | decide | (have : recursionLimit = 1000 := by decide
                                                                                                                                                                 omega)))
theorem lt_K {A : Around} {ns : List (Addr × Obj)} {c : Nat → Nat → Int} {n : Nat} {h1 : Heap} {K x y dx dy : Addr} {i j : Nat} {ti tj : Tok} {o1 o2 : Obj} {a1 a2 : Addr} (hns : ns = [(a1, o1), (a2, o2)])
    (LC : LamC w pp loose mean mg mb lam ns c n h1) (hfn : FnAt lam h1) (hst : Stays h1 s.heap) (KI : KIs w s.heap K lam) (hi : i < n) (hj : j < n)
    (hx : s.heap.get? x = some (kInst K dx (.int i ti))) (hdx : s.heap.get? dx = some ⟨.type "dict", none, .dict #[] 0, #[]⟩) (hy : s.heap.get? y = some (kInst K dy (.int j tj))) (hdy : s.heap.get? dy = some ⟨.type "dict", none, .dict #[] 0, #[]⟩)
    (B : Below A₀ base outer h₀) (F : Fr h₀ L s.heap m) (KX : (hd.heap_1 w.params).In h₀) (N : News h₀ L s.heap ns) (T : Top pp loose mean mg mb h₀) (hA : A.frames = some (env :: outer)) (hh : A.handled = none) (hdp : A.depth < 800) (hu : A.units < cLine)
    (hf : env.frame = some L) (hke : env.scope.kind = .function)
    (h : ∀ h' tk, Stays s.heap h' → Q (decide (c i j < 0)) { s with heap := h', toks := tk }) :
    wpAny (model PySem.Challenge.pw_qw0044_01 w) A (keyLt' oneType' (.ref x) (.ref y)) Q E s := by
  k_with_none
  k_with "call ref" => ((k_here; (with_reducible show wpAny _ _ (PySem.call (Value.ref _) _) _ _ _); refine Halt.of ?_))
  k_with "callWith ref" => ((k_here; k_dflt (refine' callWith_F ?k1 ?_; (case k1 => assumption); k_whole)))
  k_with "FnAt" => ((k_dflt (assumption)))
  k_with "eval Name" => ((k_here; k_dflt (refine wpAny_Name (wpAny_loadName_free rfl rfl rfl ⟨_, by assumption, by assumption⟩ ?_ (by decide)) (by decide))))
  k_with "getAttr ref" => ((k_here; k_dflt (refine getobj_K (by assumption) (by assumption) (by assumption) (by assumption) (by assumption) rfl ?_)))
  subst hns
  refine Classical.byContradiction fun hn => ?_
  obtain ⟨⟨ns2, md, bt, f2, f3, f4, f5, f6, f7, sl, sa, c2, c3, cl, nsx, fr, cc, hh1, hh3, t1, t3, u1, u2, w2, w3, w4, w5, w6, w7, u3, u5, t8, t9, tn, tv, tm, v3, d2, d3, p2, p3, ct2, ct3, ocl⟩, bb⟩ := KI
  dsimp only at bb
  obtain ⟨b1, b2, b3, b4, b5, b6, b7, b8, b9⟩ := bb
  refine hn ?_
  clear hn
  rw [keyLt'_oneType, oneLt'_eq]
  simp only [if_true]
  refine wpAny_bind (wpAny_cRoomFor hu ?_)
  have n1 : ns2 ≠ K := ne_obj b2 b1 (show (1:Nat) ≠ 0 by decide)
  have n2 : f3 ≠ K := ne_obj b5 b1 (show (2:Nat) ≠ 0 by decide)
  have n3 : f3 ≠ ns2 := ne_obj b5 b2 (show (2:Nat) ≠ 1 by decide)
  refine wpAny_bind (ifBound_K (kf_in b1 b2 b5) (⟨hx, rfl, rfl, hdx⟩ : InstAt s.heap x (kInst K dx (.int i ti)) K (some ⟨.type "dict", none, .dict #[] 0, #[]⟩)) (kf_find kf_k (kf_n n1) (r := some (.ref f3)) (by kernel_rfl) (by kernel_rfl)) ?isfn ?_)
  case isfn =>
    unfold isFn typeIn
    dsimp only
    rw [kf_f n2 n3]
    rfl
  refine wpAny_mono (Q := fun v s' => ∃ b, v = .bool b ∧ Q b s') ?_ (fun v s' hv => ?_) fun _ _ e => e
  rotate_left
  · obtain ⟨b, rfl, hv⟩ := hv
    exact wpAny_truthy_bool hv
  revert KX
  have h0 : PySem.Challenge.rw_qw0044_01.Holds ∨ True := .inr trivial
  revert h0
  k_fill
  intro h0 KX
  clear h0
  refine wpAny_call ?_
  refine' (fun e3 => ?main) (pick3 (w := w) ?hp ?hpb)
  case hp => k_is
  case hpb => rfl
  rotate_left
  unfold fnO at b5
  generalize qlO w 3 nsx fr cc cl KQD = ql at b5 b7
  rw [e3] at b5
  dsimp only [stName, stArgs, stBody, stScope] at b5
  refine' enter_X (K := hd.heap_1 w.params) B F KX N T hA hf hke ?ho ?hdd b7 ?k8 ?k9 ?kB ?_ ?c2 ?c3 ?c4 ?c5
  case ho => exact b5
  case hdd => exact rfl
  case k8 => k_room
  case k9 => exact BindsTo.of_eq rfl
  case kB => exact locs rfl
  case c2 => rfl
  case c3 => rfl
  case c4 => rfl
  case c5 => decide
  intro g' L' h' kb FG' F' N' st B' X' T'
  (try dsimp only)
  (try k_lift B')
  have x1 := st _ _ b1
  have x2 := st _ _ b2
  have x3 := st _ _ b3
  have x8 := st _ _ b8
  have x9 := b9
  have xx := st _ _ hx
  have xdx := st _ _ hdx
  have xy := st _ _ hy
  have xdy := st _ _ hdy
  have xf : FnAt lam h' := by
    obtain ⟨oc, od, fd, sl, e⟩ := hfn
    exact ⟨oc, od, fd, sl, st _ _ (hst _ _ e)⟩
  k_steps
  refine LC _ _ _ _ _ _ _ _ _ _ _ _ _ _ _ hi hj (fun b o e => st _ _ (hst _ _ e)) (by k_room) (by first | exact hh | rfl) (Around.frames_deeper hA) rfl rfl B' F' X' T' N' fun h6 tk6 t6 k6 => ?_
  have F6 := k6.fr F'
  have N6 := k6.news N'
  k_steps
  intro kS
  exact ⟨_, rfl, h _ _ (kS.stays (fun p hp => (N p hp).1) fun p hp => (N6 p hp).1)⟩
end
end Mine
end

section
open PySem PySem.W PyProof.Rows
namespace Mine
local macro_rules | `(tactic| walk_at "no goal") => `(tactic| skip)
local macro_rules | `(tactic| walk_at "no goal") => `(tactic| skip)
theorem freshKQ : True ∧ True := by
  k_with_none
  w_top off
  first | (walk1; done) | exact ⟨trivial, trivial⟩
end Mine
end

/-! part KQ -/
section
open PySem PySem.W PySem.W.X PyProof.Rows PySem.Calls
set_option maxRecDepth 100000
set_option maxHeartbeats 4000000
namespace Mine
local macro_rules | `(tactic| walk_at $s:str) => `(tactic| k_extra $s)
local macro_rules | `(tactic| k_room) => `(tactic| ((try simp only [depth_under_make, depth_under_kw, depth_in1, depth_deeper, depth_caller]); first | decide | (have : recursionLimit = 1000 := by decide
                                                                                                                                                                 omega)))
theorem pick2 {w : World} {oc : Value} {od : Option Addr} {fd : FuncData} {os : Array (Option Value)} {r0 : List Stmt} {n1 : Str} {n2 : List Expr} {n3 : List Keyword} {s0 s1 st : Stmt} {r1 : List Stmt} {c5 : List Expr} {c6 : List TypeParam} {c7 : Scope} {c8 : Option Scope} {c9 : Str} {c10 : List Str} {c11 : Pos}
    (h : (hd.heap_1 w.params).lookup 112 = some ⟨oc, od, .func fd, os⟩) (hb : fd.body = .stmts (.ClassDef n1 n2 n3 (s0 :: s1 :: st :: r1) c5 c6 c7 c8 c9 c10 c11 :: r0)) : defSt w 2 = st := by
  unfold defSt clsSt clsOf
  rw [h]
  dsimp only
  rw [hb]
  rfl
section
variable {K ns2 f md : Addr} {o1 o2 o3 o4 : Obj}
theorem kg_in {h : Heap} (h1 : h.get? K = some o1) (h2 : h.get? ns2 = some o2) (h3 : h.get? f = some o3) (h4 : h.get? md = some o4) : Frag.In [(K, o1), (ns2, o2), (f, o3), (md, o4)] h := by
  intro a o e
  simp only [List.lookup] at e
  split at e
  · rename_i q; rw [eq_of_beq q, ← Option.some.inj e]; exact h1
  · split at e
    · rename_i q; rw [eq_of_beq q, ← Option.some.inj e]; exact h2
    · split at e
      · rename_i q; rw [eq_of_beq q, ← Option.some.inj e]; exact h3
      · split at e
        · rename_i q; rw [eq_of_beq q, ← Option.some.inj e]; exact h4
        · cases e
theorem kg_k : List.lookup K [(K, o1), (ns2, o2), (f, o3), (md, o4)] = some o1 := by simp [List.lookup]
theorem kg_n (a : ns2 ≠ K) : List.lookup ns2 [(K, o1), (ns2, o2), (f, o3), (md, o4)] = some o2 := by
  have : (ns2 == K) = false := by simpa using a
  simp [List.lookup, this]
theorem kg_f (a : f ≠ K) (b : f ≠ ns2) : List.lookup f [(K, o1), (ns2, o2), (f, o3), (md, o4)] = some o3 := by
  have a : (f == K) = false := by simpa using a
  have b : (f == ns2) = false := by simpa using b
  simp [List.lookup, a, b]
theorem kg_m (a : md ≠ K) (b : md ≠ ns2) (c : md ≠ f) : List.lookup md [(K, o1), (ns2, o2), (f, o3), (md, o4)] = some o4 := by
  have a : (md == K) = false := by simpa using a
  have b : (md == ns2) = false := by simpa using b
  have c : (md == f) = false := by simpa using c
  simp [List.lookup, a, b, c]
end
section
variable {w : World} {A A₀ : Around} {base h₀ : Heap} {outer : List Env} {env : Env} {E : Value → Shared → Prop} {s : Shared} {L lam : Addr} {m mg mb : Str → Option Value} {pp : Program} {loose : List Str} {mean : ExcName → Option Value} {Q : Value → Shared → Prop}
theorem kcall_Q {K : Addr} {i : Nat} {t : Tok} (KI : KIs w s.heap K lam)
    (B : Below A₀ base outer h₀) (F : Fr h₀ L s.heap m) (KX : (hd.heap_1 w.params).In h₀) (T : Top pp loose mean mg mb h₀) (hA : A.frames = some (env :: outer)) (hdp : A.depth < 800) (hf : env.frame = some L) (hke : env.scope.kind = .function)
    (h : ∀ x d h' tk, Stays s.heap h' → s.heap.get? x = none → s.heap.get? d = none → h'.get? x = some (kInst K d (.int i t)) → h'.get? d = some ⟨.type "dict", none, .dict #[] 0, #[]⟩ → Q (.ref x) { s with heap := h', toks := tk }) :
    wpAny (model PySem.Challenge.pw_qw0044_01 w) A (PySem.call (.ref K) [.int i t]) Q E s := by
  k_with_none
  k_with "setAttr ref" => (k_here; refine Halt.of ?_)
  revert KX
  have h0 : PySem.Challenge.rw_qw0044_01.Holds ∨ True := .inr trivial
  revert h0
  k_fill
  intro h0 KX
  clear h0
  refine Classical.byContradiction fun hn => ?_
  obtain ⟨⟨ns2, md, bt, f2, f3, f4, f5, f6, f7, sl, sa, c2, c3, cl, nsx, fr, cc, hh1, hh3, t1, t3, u1, u2, w2, w3, w4, w5, w6, w7, u3, u5, t8, t9, tn, tv, tm, v3, d2, d3, p2, p3, ct2, ct3, ocl⟩, bb⟩ := KI
  dsimp only at bb
  obtain ⟨b1, b2, b3, b4, -, ⟨o6, vs6, t6, g6, ⟨e6, -⟩, q6⟩, -⟩ := bb
  refine hn ?_
  clear hn
  have n1 : ns2 ≠ K := ne_obj b2 b1 (show (1:Nat) ≠ 0 by decide)
  have n2 : f2 ≠ K := ne_obj b4 b1 (show (2:Nat) ≠ 0 by decide)
  have n3 : f2 ≠ ns2 := ne_obj b4 b2 (show (2:Nat) ≠ 1 by decide)
  have n4 : md ≠ K := ne_obj b3 b1 (show (3:Nat) ≠ 0 by decide)
  have n5 : md ≠ ns2 := ne_obj b3 b2 (show (3:Nat) ≠ 1 by decide)
  have n6 : md ≠ f2 := ne_obj b3 b4 (show (3:Nat) ≠ 2 by decide)
  obtain ⟨Kx, Xk, k1, k2, k3, k4⟩ : ∃ Kx : Frag, Kx.In s.heap ∧ Kx.lookup K = some (kObjC K ns2 bt tn tv) ∧ Kx.lookup ns2 = some (dictOf (kNs w hh1 hh3 t1 t3 u1 u2 w2 w3 w4 w5 w6 w7 u3 u5 t8 t9 v3 sl sa f2 f3 f4 f5 f6 f7 md) 3) ∧ Kx.lookup f2 = some (fnO w 2 [] nsx fr cc cl KQD d2 p2 c2 ct2) ∧ Kx.lookup md = some (mdObj K tm) :=
    ⟨_, kg_in b1 b2 b4 b3, kg_k, kg_n n1, kg_f n2 n3, kg_m n4 n5 n6⟩
  have i1 : findIn Kx (.ref K) "__init__" = some (some (.ref f2)) := kf_find k1 k2 (r := some (.ref f2)) (by kernel_rfl) (by kernel_rfl)
  have i2 : findIn Kx (.ref K) "__setattr__" = some (some (.builtin "object.__setattr__")) := kf_find k1 k2 (by kernel_rfl) (by kernel_rfl)
  have i3 : findIn Kx (.ref K) (Str.ofString "obj") = some (some (.ref md)) := kf_find k1 k2 (by kernel_rfl) (by kernel_rfl)
  have i4 : takerIn Kx K (Str.ofString "obj") = some (some (.ref md)) := by
    unfold takerIn
    rw [i3]
    have e := kg_takes k4
    dsimp only [Option.bind]
    rw [e]
    rfl
  have i5 := kg_cls k3
  clear k2 k3
  have C6 : s.heap.CodeRec (.ref c2) (qlO w 2 nsx fr cc cl KQD) := ⟨c2, o6, vs6, t6, rfl, g6, e6, q6⟩
  refine' (fun e3 => ?main) (pick2 (w := w) ?hp ?hpb)
  case hp => k_is
  case hpb => rfl
  rotate_left
  unfold fnO at b4
  generalize qlO w 2 nsx fr cc cl KQD = ql at b4 C6
  rw [e3] at b4
  dsimp only [stName, stArgs, stBody, stScope] at b4
  obtain ⟨hh, g, dr, tk0, os⟩ := s
  dsimp only at b1 b2 b3 b4 Xk C6 F h
  refine wpAny_call ?_
  refine make_core (makes_of Xk (kg_makes k1)) (looks_findIn Xk i1) (fun self => bind_fn Xk self i5) (.inl rfl) ?_
  have F1 : Fr h₀ L ((hh.push emptyDict).push (instObj K hh.objs.size)) m := (F.push _).push _
  have N1 : News h₀ L ((hh.push emptyDict).push (instObj K hh.objs.size)) [(hh.objs.size + 1, instObj K hh.objs.size), (hh.objs.size, emptyDict)] := by
    have N0 : News h₀ L hh [] := fun _ h => nomatch h
    have := (N0.push F emptyDict).push (F.push _) (instObj K hh.objs.size)
    rwa [Heap.size_push] at this
  have kp : ∀ b o, hh.get? b = some o → ((hh.push emptyDict).push (instObj K hh.objs.size)).get? b = some o := fun b o e => Heap.get?_push_of_some _ (Heap.get?_push_of_some _ e)
  refine' enter_X (K := hd.heap_1 w.params) B F1 KX N1 T ?hA hf hke ?ho ?hdd (C6.keeps kp) ?k8 ?k9 ?kB ?_ ?c2 ?c3 ?c4 ?c5
  case hA => exact hA
  case ho => exact kp _ _ b4
  case hdd => exact rfl
  case k8 => k_room
  case k9 => exact BindsTo.of_eq rfl
  case kB => exact locs rfl
  case c2 => rfl
  case c3 => rfl
  case c4 => rfl
  case c5 => decide
  intro g' L' h' kb FG' F' N' st B' X' T'
  (try dsimp only)
  (try k_lift B')
  have Xg : Kx.In g' := fun b o e => kb b o (fun hm => by
    have lt := Heap.lt_size (Xk b o e)
    rcases List.mem_cons.mp hm with rfl | hm
    · exact Nat.lt_irrefl _ (Nat.lt_of_succ_lt lt)
    · rw [List.mem_singleton.mp hm] at lt; exact Nat.lt_irrefl _ lt) (kp _ _ (Xk b o e))
  have z1 : hh.get? hh.objs.size = none := Heap.get?_none_of_le (Nat.le_refl _)
  have z2 : hh.get? (hh.objs.size + 1) = none := Heap.get?_none_of_le (Nat.le_succ _)
  have z3 : ∀ b o, hh.get? b = some o → b < hh.objs.size := fun b o e => Heap.lt_size e
  generalize hh.objs.size = dd at *
  k_steps
  rename Fr _ _ _ _ => F5
  rename News _ _ _ _ => N5
  refine set_slot (K := Kx) (ox := instObj K dd) (ox' := kInst K dd (.int i t)) (od := emptyDict) F5 Xg N5 ⟨(N5 (dd + 1, _) (by k_mem)).1, rfl, rfl, (N5 (dd, _) (by k_mem)).1⟩ i2 (kg_plain k1) i4 (kg_type k4) (kg_slot k1 k4) (by decide) rfl rfl (Upd.head ?_) fun h6 F6 N6 => ?_
  · intro p hp
    rw [List.mem_singleton.mp hp]
    exact Nat.ne_of_lt (Nat.lt_succ_self _)
  k_steps
  rename News h₀ L _ _ => N9
  intro kS
  refine ⟨rfl, h (dd + 1) dd h6 _ (fun b o e => kS b o (fun hm => ?_) (kp b o e)) z2 z1 (N9 (dd + 1, _) (by k_mem)).1 (N9 (dd, _) (by k_mem)).1⟩
  have lt := z3 b o e
  rcases List.mem_cons.mp hm with rfl | hm
  · exact Nat.lt_irrefl _ (Nat.lt_of_succ_lt lt)
  · rw [List.mem_singleton.mp hm] at lt; exact Nat.lt_irrefl _ lt
end
end Mine
end

section
open PySem PySem.W PyProof.Rows
namespace Mine
local macro_rules | `(tactic| walk_at "no goal") => `(tactic| skip)
theorem freshKO : True ∧ True := by
  k_with_none
  w_top off
  first | (walk1; done) | exact ⟨trivial, trivial⟩
end Mine
end

/-! part KO -/
section
open PySem PySem.W PySem.W.X PyProof.Rows PySem.Calls
set_option maxRecDepth 100000
set_option maxHeartbeats 4000000
namespace Mine
local macro_rules | `(tactic| omega) => `(tactic| lia)
section
variable {prog : Program} {w : World} {A : Around} {E : Value → Shared → Prop} {s : Shared}
theorem collect_rng {r : Addr} {n : Nat} {t u v : Tok} {Q : List Value → Shared → Prop} (hh : A.handled = none) (hr : IsRange s.heap r 0 n 1 t u v) (hn : n ≤ 1000)
    (h : ∀ h' tk vs, Stays s.heap h' → vs.length = n → (∀ (j : Nat) y, vs[j]? = some y → ∃ t, y = .int (j : Int) t) → Q vs { s with heap := h', toks := tk }) :
    wpAny (model prog w) A (collect (.ref r)) Q E s := by
  have hrs : Builtin.Range.rangeSize 0 (n : Int) 1 = (n : Int) := by
    simp [Builtin.Range.rangeSize]
    intro h; omega
  have hsmall : Builtin.Range.small 0 (n : Int) 1 = true := small_one (a := 0) (b := (n : Int)) (by decide) (by decide) (by omega) (by omega)
  unfold collect
  refine wpAny_bind (wpAny_runValue (codeAny_builtin entry_proto_collect' ?_))
  show wpAny _ _ (do again (.builtin "list.__iadd__" ⟨[← newList [], .ref r], []⟩)) _ _ s
  refine wpAny_bind (wpAny_newList (wpAny_pure ⟨Code.quiet_builtin _ (by decide +kernel), codeAny_builtin entry_list_iadd' ?_⟩))
  show wpAny _ A.in1 (Builtin.List.listExtendWith (.ref s.heap.objs.size) (.ref r) (.ref s.heap.objs.size)) _ _ { s with heap := s.heap.push (seqObj "list" #[] 0) }
  refine wpAny_extend_range (prog := prog) (w := w) (A := A) (R := fun r s' => match r with
    | .ok (.ret v) => wpAny (model prog w) A (match v with
        | .ref a => do
            let o ← load a
            match o.data with
            | .seq xs _ => pure xs.toList
            | _ => unsupported "internal:collect"
        | _ => unsupported "internal:collect") Q E s'
    | .ok _ => False
    | .error e => E e s') (s := { s with heap := s.heap.push (seqObj "list" #[] 0) }) hh (Heap.get?_push_of_some _ hr) hsmall hrs (by omega) s.heap.objs.size _ 0 (Heap.get?_push_size _ rfl) fun h' tk acc' c' hk hS hacc => ?_
  show wpAny (model prog w) A (do
      let o ← load s.heap.objs.size
      match o.data with
      | .seq xs _ => pure xs.toList
      | _ => unsupported "internal:collect") Q E { s with heap := h', toks := tk }
  refine wpAny_bind (wpAny_load hS ?_)
  show wpAny _ _ (pure acc'.toList) Q E _
  refine wpAny_pure (h h' tk acc'.toList (fun b o e => hk b o (Nat.ne_of_lt (Heap.lt_size e)) (Heap.get?_push_of_some _ e)) (by rw [Array.length_toList]; exact hacc.1) fun j y hy => ?_)
  obtain ⟨t, e⟩ := hacc.2 j y (by rw [← Array.getElem?_toList]; exact hy)
  exact ⟨t, by rw [e, show (0 : Int) + (j : Int) * 1 = (j : Int) by omega]⟩
end
section
variable {prog : Program} {w : World} {A : Around} {E : Value → Shared → Prop} {s : Shared}
theorem stays_upd {h₀ h : Heap} {a : Addr} {f : Obj → Obj} (k : Stays h₀ h) (ha : h₀.get? a = none) : Stays h₀ (h.update a f) := fun b o e => by
  have hne : b ≠ a := fun q => by rw [q, ha] at e; cases e
  exact ((Heap.SameBut.update h a f).2 b hne).trans (k b o e)
theorem stays_push {h₀ h : Heap} {o : Obj} (k : Stays h₀ h) : Stays h₀ (h.push o) := fun _ _ e => Heap.get?_push_of_some _ (k _ _ e)
theorem stays_none {h₀ h : Heap} (k : Stays h₀ h) {a : Addr} (e : h.get? a = none) : h₀.get? a = none := by
  cases q : h₀.get? a with
  | none => rfl
  | some o => rw [k _ _ q] at e; cases e
/-- all but lists and tuples stand -/
def StaysS (h h' : Heap) : Prop := ∀ b o, (∀ xs e, o.data ≠ .seq xs e) → h.get? b = some o → h'.get? b = some o
theorem staysS {h h' : Heap} (k : Stays h h') : StaysS h h' := fun b o _ e => k b o e
theorem staysS_upd {h : Heap} {a : Addr} {f : Obj → Obj} {c : String} {xs : Array Value} {e : Nat} (ha : h.get? a = some (seqObj c xs e)) : StaysS h (h.update a f) := fun b o hn e' => by
  have hne : b ≠ a := fun q => by rw [q, ha] at e'; exact hn xs e (by rw [← Option.some.inj e'])
  exact ((Heap.SameBut.update h a f).2 b hne).trans e'
/-- sorted(range(n), key=f) for keys that are objects -/
theorem sorted_key {Key : Heap → Nat → Value → Prop} {d : Nat → Int} {n : Nat} {T : Value} {f : Addr} {r : Addr} {t u v : Tok} {Q : Value → Shared → Prop} (hh : A.handled = none) (h2 : 2 ≤ n) (h64 : n < 64)
    (hr : IsRange s.heap r 0 n 1 t u v) (hKst : ∀ h h' i v, StaysS h h' → Key h i v → Key h' i v) (hty : ∀ h i v, Key h i v → Looks (model prog w) h (typeOf v) T) (hT1 : (T != Value.type "tuple") = true) (hT2 : (T == T) = true)
    (hcall : ∀ (E : Value → Shared → Prop) h tk (i : Nat) t (Q : Value → Shared → Prop), i < n → Stays s.heap h → (∀ h' tk' v, Stays h h' → Key h' i v → Q v { s with heap := h', toks := tk' }) → wpAny (model prog w) A.in1.in1 (call (.ref f) [.int (i : Int) t]) Q E { s with heap := h, toks := tk })
    (hlt : ∀ (E : Value → Shared → Prop) h tk (i j : Nat) u v (C : Bool → Shared → Prop), i < n → j < n → Stays s.heap h → Key h i u → Key h j v → (∀ h' tk', Stays h h' → C (cmpD d i j) { s with heap := h', toks := tk' }) → wpAny (model prog w) A.in1.in1 (keyLt' oneType' u v) C E { s with heap := h, toks := tk })
    (h : ∀ D h' tk c (ord : List Nat) (tks : Nat → Tok), Stays s.heap h' → s.heap.get? D = none → h'.get? D = some (seqObj "list" (ord.map fun i : Nat => Value.int (i : Int) (tks i)).toArray c) → ord.Perm (List.range n) → ord.Pairwise (Bef d) → Q (.ref D) { s with heap := h', toks := tk }) :
    wpAny (model prog w) A (call (.builtin "sorted") [.ref r] [(Str.ofString "key", .ref f)]) Q E s := by
  refine call_function_entry_kw kind_sorted plain_sorted entry_sorted (ksk_s1 _ _) ?_
  unfold Builtin.«sorted»
  refine wpAny_bind (m := checkCount "sorted" 1 1 _) (wpAny_pure ?_)
  refine wpAny_bind (collect_rng (n := n) hh hr (by omega) fun h1 tk1 vs k1 hlen hvs => ?_)
  have hsl : vs.length ≤ sizeLine := by rw [sizeLine_eq]; omega
  refine wpAny_bind (wpAny_newList ?_ hsl)
  have hoL : (h1.push (seqObj "list" vs.toArray 0)).get? h1.objs.size = some (seqObj "list" vs.toArray 0) := Heap.get?_push_size _ rfl
  refine wpAny_bind (wpAny_holding (wpAny_call_entry_kw slot_list_sort ⟨_, hoL, rfl⟩ entry_list_sort ?body (ksk_l1 _ _)))
  case body =>
    show wpAny (model prog w) A.in1.in1 (Builtin.«list.sort» ⟨[.ref h1.objs.size], _⟩) _ _ _
    rw [ksk_t1]
    have ha0 : s.heap.get? h1.objs.size = none := stays_none k1 (Heap.get?_none_of_le (Nat.le_refl _))
    generalize hae : h1.objs.size = a at *
    show wpAny (model prog w) A.in1.in1 _ _ _ { s with heap := h1.push (seqObj "list" vs.toArray 0), toks := tk1 }
    have k2 : Stays s.heap (h1.push (seqObj "list" vs.toArray 0)) := stays_push k1
    generalize (h1.push (seqObj "list" vs.toArray 0)) = g2 at *
    obtain ⟨e1, ho1⟩ : ∃ e1, (g2.update a (Obj.mapSeq fun _ => (#[] : Array Value))).get? a = some (seqObj "list" #[] e1) := ⟨_, get?_update_seq hoL fun _ => #[]⟩
    have k3 : Stays s.heap (g2.update a (Obj.mapSeq fun _ => (#[] : Array Value))) := stays_upd k2 ha0
    unfold ksk_tree
    refine wpAny_bind (listItems_at hoL rfl ?_)
    refine wpAny_bind (listUpdate_at hoL rfl ?_ (by rw [List.size_toArray]; exact hsl) (Nat.zero_le _))
    refine wpAny_bind (seqEpoch_at ho1 rfl ?_)
    refine wpAny_bind (wpAny_newTuple ?_ (by show vs.length ≤ _; exact hsl))
    refine wpAny_bind (wpAny_newList ?_ (Nat.zero_le _))
    refine wpAny_holding ?_
    dsimp only
    have hkS : (((g2.update a (Obj.mapSeq fun _ => (#[] : Array Value))).push (seqObj "tuple" vs.toArray 0)).push (seqObj "list" #[] 0)).get? ((g2.update a (Obj.mapSeq fun _ => (#[] : Array Value))).push (seqObj "tuple" vs.toArray 0)).objs.size = some (seqObj "list" #[] 0) := Heap.get?_push_size _ rfl
    have ho4 : (((g2.update a (Obj.mapSeq fun _ => (#[] : Array Value))).push (seqObj "tuple" vs.toArray 0)).push (seqObj "list" #[] 0)).get? a = some (seqObj "list" #[] e1) := Heap.get?_push_of_some _ (Heap.get?_push_of_some _ ho1)
    have k4 : Stays s.heap (((g2.update a (Obj.mapSeq fun _ => (#[] : Array Value))).push (seqObj "tuple" vs.toArray 0)).push (seqObj "list" #[] 0)) := stays_push (stays_push k3)
    have hS0 : s.heap.get? ((g2.update a (Obj.mapSeq fun _ => (#[] : Array Value))).push (seqObj "tuple" vs.toArray 0)).objs.size = none := stays_none (stays_push k3) (Heap.get?_none_of_le (Nat.le_refl _))
    have hka : ((g2.update a (Obj.mapSeq fun _ => (#[] : Array Value))).push (seqObj "tuple" vs.toArray 0)).objs.size ≠ a := Nat.ne_of_gt (Heap.lt_size (Heap.get?_push_of_some _ ho1))
    show wpAny (model prog w) A.in1.in1 (ksk_rest a (.ref f) false vs.toArray e1 (.ref ((g2.update a (Obj.mapSeq fun _ => (#[] : Array Value))).push (seqObj "tuple" vs.toArray 0)).objs.size)) _ _ { s with heap := ((g2.update a (Obj.mapSeq fun _ => (#[] : Array Value))).push (seqObj "tuple" vs.toArray 0)).push (seqObj "list" #[] 0), toks := tk1 }
    generalize ((g2.update a (Obj.mapSeq fun _ => (#[] : Array Value))).push (seqObj "tuple" vs.toArray 0)).objs.size = kS at *
    generalize (((g2.update a (Obj.mapSeq fun _ => (#[] : Array Value))).push (seqObj "tuple" vs.toArray 0)).push (seqObj "list" #[] 0)) = g4 at *
    clear k3 ho1 k2 hoL hae hr
    unfold ksk_rest
    refine wpAny_bind (wpAny_rule ?_)
    first
      | rw [List.forIn_toArray]
      | (rw [← Array.forIn_toList]; simp only [List.toList_toArray])
      | rw [← Array.forIn_toList]
    refine wpAny_bind (ksk_fold (fun i s' => ∃ g tk kA e, s' = { s with heap := g, toks := tk } ∧ Stays s.heap g ∧ g.get? a = some (seqObj "list" #[] e1) ∧ g.get? kS = some (seqObj "list" kA e) ∧ kA.size = i ∧ ∀ j, j < i → Key g j (kA.getD j .none)) vs 0 _
      ⟨g4, tk1, #[], 0, rfl, k4, ho4, hkS, rfl, fun j hj => absurd hj (Nat.not_lt_zero _)⟩ ?step ?done)
    case step =>
      intro j x s' hx hx9
      refine Classical.byContradiction fun hn9 => ?_
      obtain ⟨g, tk, kA, e, rfl, hk, hga, hgk, hks, hkeys⟩ := hx9
      refine hn9 ?_
      clear hn9
      simp only [Nat.zero_add] at hks hkeys ⊢
      have hj : j < vs.length := (List.getElem?_eq_some_iff.mp hx).1
      obtain ⟨tj, rfl⟩ := hvs j x hx
      refine wpAny_bind (wpAny_attempt (hcall _ g tk j tj _ (by omega) hk fun h' tk' v kk hv => ?_))
      have ga := kk _ _ hga
      have gk := kk _ _ hgk
      try dsimp only
      obtain ⟨c2, hc2⟩ : ∃ c2, (h'.update kS (Obj.mapSeq (·.push v))).get? kS = some (seqObj "list" (kA.push v) c2) := ⟨_, get?_update_seq gk (·.push v)⟩
      have sb := Heap.SameBut.update h' kS (Obj.mapSeq (·.push v))
      have st2 : Stays s.heap (h'.update kS (Obj.mapSeq (·.push v))) := stays_upd (hk.trans kk) hS0
      have ss := staysS_upd (f := Obj.mapSeq (·.push v)) gk
      refine wpAny_bind (listUpdate_at gk rfl ?_ (by rw [sizeLine_eq]; omega) (Nat.le_trans (Nat.le_of_eq (Array.size_push ..)) (by rw [sizeLine_eq]; omega)))
      refine wpAny_pure ⟨rfl, _, tk', kA.push v, c2, rfl, st2, (sb.2 a hka.symm).trans ga, hc2, by rw [Array.size_push, hks], fun i hi => ?_⟩
      by_cases hij : i = j
      · subst hij
        have e : (kA.push v).getD i .none = v := by simp [Array.getD, ← hks]
        rw [e]
        exact hKst _ _ _ _ ss hv
      · have hi' : i < kA.size := by omega
        have e : (kA.push v).getD i .none = kA.getD i .none := by simp [Array.getD, hi', Nat.lt_succ_of_lt hi', Array.getElem_push_lt hi']
        rw [e]
        exact hKst _ _ _ _ ss (hKst _ _ _ _ (staysS kk) (hkeys i (by omega)))
    case done =>
      intro s' hx9
      refine Classical.byContradiction fun hn9 => ?_
      obtain ⟨g, tk, kA, e, rfl, hk, hga, hgk, hks, hkeys⟩ := hx9
      refine hn9 ?_
      clear hn9
      rw [Nat.zero_add, hlen] at hks hkeys
      refine wpAny_bind (listItems_at hgk rfl ?_)
      unfold ksk_end
      dsimp only
      have hn2 : ¬ vs.toArray.size < 2 := by rw [List.size_toArray]; omega
      simp only [Bool.false_eq_true, if_false]
      rw [if_neg hn2, if_neg hn2]
      obtain ⟨kL⟩ := kA
      have hkl : kL.length = n := by rw [← hks]; rfl
      refine wpAny_bind (kas_kind (by omega) (fun v hv => ?_) hT1 hT2 ?_)
      · obtain ⟨i, hi, rfl⟩ := List.getElem_of_mem hv
        have := hkeys i (by omega)
        rw [show (Array.mk kL).getD i .none = kL[i] by simp [Array.getD, hi]] at this
        exact hty _ _ _ this
      have hps : (kL.toArray.zip vs.toArray).size = n := by rw [Array.size_zip]; simp only [List.size_toArray]; omega
      have est : SortSt.mk' oneType' (kL.toArray.zip vs.toArray) #[] 7 none = kas_st oneType' (kL.toArray.zip vs.toArray) (List.toArray (List.range n)) := by
        have e := kas_range (kL.toArray.zip vs.toArray)
        rw [hps] at e
        show _ = SortSt.mk' oneType' ((List.toArray (List.range n)).map (kas_item (kL.toArray.zip vs.toArray))) #[] 7 none
        rw [e]
      let Inv : Shared → Prop := fun s' => ∃ h tk, s' = { s with heap := h, toks := tk } ∧ Stays s.heap h ∧ h.get? a = some (seqObj "list" #[] e1) ∧ h.get? kS = some (seqObj "list" kL.toArray e) ∧ ∀ j, j < n → Key h j (kL.toArray.getD j .none)
      have itm : ∀ i, i < n → kas_item (kL.toArray.zip vs.toArray) i = (kL.toArray.getD i .none, vs.getD i .none) := fun i hi => by
        unfold kas_item
        simp [Array.getD, hkl, hlen, hi]
      have run := kas_runs (prog := prog) (w := w) (A := A.in1.in1) (E := fun _ _ => False) (κ := oneType') (it := kL.toArray.zip vs.toArray) (n := n) (Q := fun _ st' s' => ∃ p : Array Nat, p.size = n ∧ p.toList.Perm (List.range n) ∧ p.toList.Pairwise (Bef d) ∧ arrOf st' = p.map (kas_item (kL.toArray.zip vs.toArray)) ∧ failedOf st' = none ∧ Inv s')
        (G := fun p s' => p.toList.Perm (List.range n) ∧ p.toList.Pairwise (Bef d) ∧ Inv s') (s := { s with heap := g, toks := tk }) h2 h64 (fun p' st' s' a1 a2 a3 a4 => ⟨p', a1, a4.1, a4.2.1, a2, a3, a4.2.2⟩)
        (All.wp (cmp := cmpD d) (n := n) (Inv := Inv) (G := fun p => p.toList.Perm (List.range n) ∧ p.toList.Pairwise (Bef d)) (fun i j s' C hi hj hI hC => ?ask) (fun p s' hp hI => ⟨hp.1, hp.2, hI⟩) (kas_sort n) _ (sort_all h2 fun p' _ q1 q2 => ⟨q1, q2⟩) ⟨g, tk, rfl, hk, hga, hgk, hkeys⟩)
      case ask =>
        refine Classical.byContradiction fun hn9 => ?_
        obtain ⟨g', tk', rfl, b1, b2, b3, b4⟩ := hI
        refine hn9 ?_
        clear hn9
        unfold kas_cmp
        rw [itm i hi, itm j hj]
        exact hlt _ g' tk' i j _ _ C hi hj b1 (b4 i hi) (b4 j hj) fun h' tk2 kk => hC _ ⟨h', tk2, rfl, b1.trans kk, kk _ _ b2, kk _ _ b3, fun q hq => hKst _ _ _ _ (staysS kk) (b4 q hq)⟩
      rw [← est] at run
      refine wpAny_bind (wpAny_mono run ?_ fun _ _ e => e.elim)
      rintro ⟨⟨⟩, st'⟩ s' hx9
      refine Classical.byContradiction fun hn9 => ?_
      obtain ⟨p, hp, hperm, hpw, har, hf, g', tk', rfl, b1, b2, b3, b4⟩ := hx9
      refine hn9 ?_
      clear hn9
      dsimp only
      unfold ksk_tail
      dsimp only
      have hout : (arrOf st').map (·.2) = List.toArray (p.toList.map fun i => vs.getD i Value.none) := by
        apply Array.toList_inj.mp
        rw [har, Array.map_map, Array.toList_map]
        refine List.map_congr_left fun i hi => ?_
        have hi' : i < n := List.mem_range.mp (hperm.mem_iff.mp hi)
        show (kas_item _ i).2 = _
        rw [itm i hi']
      have hsz : (List.toArray (p.toList.map fun i => vs.getD i Value.none)).size = n := by rw [List.size_toArray, List.length_map, Array.length_toList, hp]
      simp only [Bool.false_eq_true, if_false]
      rw [hout]
      refine wpAny_bind (listUpdate_at b3 rfl ?_ (by rw [List.size_toArray, hkl, sizeLine_eq]; omega) (Nat.zero_le _))
      refine wpAny_bind (wpAny_letGo ?_)
      have sb := Heap.SameBut.update g' kS (Obj.mapSeq fun _ => (#[] : Array Value))
      have b2' := (sb.2 a hka.symm).trans b2
      refine wpAny_bind (seqEpoch_at b2' rfl ?_)
      refine wpAny_bind (listUpdate_at b2' rfl ?_ (Nat.zero_le _) (Nat.le_trans (Nat.le_of_eq hsz) (by rw [sizeLine_eq]; omega)))
      rw [hf]
      simp only [bne_self_eq_false, Bool.false_eq_true, if_false]
      have htk : ∀ i, ∃ t : Tok, i < n → vs.getD i .none = .int (i : Int) t := fun i => by
        by_cases hi : i < n
        · obtain ⟨t, ht⟩ := hvs i (vs[i]'(by omega)) (List.getElem?_eq_getElem (by omega))
          exact ⟨t, fun _ => by rw [List.getD_eq_getElem?_getD, List.getElem?_eq_getElem (by omega)]; exact ht⟩
        · exact ⟨0, fun h => absurd h hi⟩
      obtain ⟨tks, htks⟩ := Classical.axiomOfChoice htk
      obtain ⟨c2, hc2⟩ : ∃ c2, ((g'.update kS (Obj.mapSeq fun _ => (#[] : Array Value))).update a (Obj.mapSeq fun _ => List.toArray (p.toList.map fun i => vs.getD i Value.none))).get? a = some (seqObj "list" (List.toArray (p.toList.map fun i => vs.getD i Value.none)) c2) := ⟨_, get?_update_seq b2' fun _ => List.toArray (p.toList.map fun i => vs.getD i Value.none)⟩
      refine wpAny_pure ⟨_, rfl, ?_⟩
      refine wpAny_pure ⟨_, rfl, ?_⟩
      refine h a _ _ c2 p.toList tks (stays_upd (stays_upd b1 hS0) ha0) ha0 ?_ hperm hpw
      rw [hc2]
      congr 3
      refine List.map_congr_left fun i hi => ?_
      exact htks i (List.mem_range.mp (hperm.mem_iff.mp hi))
end
end Mine
end

section
open PySem PySem.W PyProof.Rows
namespace Mine
local macro_rules | `(tactic| walk_at "no goal") => `(tactic| skip)
theorem freshKP : True ∧ True := by
  k_with_none
  w_top off
  first | (walk1; done) | exact ⟨trivial, trivial⟩
end Mine
end

/-! part KP -/
section
open PySem PySem.W PySem.W.X PyProof.Rows PySem.Calls
set_option maxRecDepth 100000
set_option maxHeartbeats 4000000
namespace Mine
def KeyOf (K : Addr) (h : Heap) (i : Nat) (v : Value) : Prop := ∃ x dx t, v = .ref x ∧ h.get? x = some (kInst K dx (.int (i : Int) t)) ∧ h.get? dx = some ⟨.type "dict", none, .dict #[] 0, #[]⟩
section
variable {w : World} {base h₀ : Heap} {env : Env} {E : Value → Shared → Prop} {s : Shared} {L lam : Addr} {m mg mb : Str → Option Value} {pp : Program} {loose : List Str} {mean : ExcName → Option Value} {Q : Value → Shared → Prop}
theorem order_K {ns : List (Addr × Obj)} {d : Nat → Int} {n : Nat} {h1 : Heap} {K r : Addr} {t u v : Tok} {o1 o2 : Obj} {a1 a2 : Addr} (hns : ns = [(a1, o1), (a2, o2)])
    (LC : LamC w pp loose mean mg mb lam ns (fun i j => d i - d j) n h1) (hfn : FnAt lam h1) (hst : Stays h1 s.heap) (KI : KIs w s.heap K lam) (hr : IsRange s.heap r 0 n 1 t u v) (h2 : 2 ≤ n) (h64 : n < 64)
    (B : Below callerA base [] h₀) (F : Fr h₀ L s.heap m) (KX : (hd.heap_1 w.params).In h₀) (N : News h₀ L s.heap ns) (T : Top pp loose mean mg mb h₀)
    (hf : env.frame = some L) (hke : env.scope.kind = .function)
    (h : ∀ D h' tk c (ord : List Nat) (tks : Nat → Tok), Stays s.heap h' → s.heap.get? D = none → h'.get? D = some (seqObj "list" (ord.map fun i : Nat => Value.int (i : Int) (tks i)).toArray c) → ord.Perm (List.range n) → ord.Pairwise (Bef d) → Q (.ref D) { s with heap := h', toks := tk }) :
    wpAny (model PySem.Challenge.pw_qw0044_01 w) (callerA.deeper env) (PySem.call (.builtin "sorted") [.ref r] [(Str.ofString "key", .ref K)]) Q E s := by
  have hdep : ((callerA.deeper env).in1.in1).depth < 800 := by
    (try simp only [depth_under_make, depth_under_kw, depth_in1, depth_deeper, depth_caller]); decide
  refine sorted_key (Key := KeyOf K) (d := d) (T := .ref K) rfl h2 h64 hr ?kst ?ty (by simp) (by simp) ?call ?lt h
  case kst =>
    rintro g g' i v ss ⟨x, dx, t, rfl, b1, b2⟩
    exact ⟨x, dx, t, rfl, ss _ _ (fun _ _ q => by cases q) b1, ss _ _ (fun _ _ q => by cases q) b2⟩
  case ty =>
    rintro g i v ⟨x, dx, t, rfl, b1, b2⟩
    exact (⟨b1, rfl, rfl, b2⟩ : InstAt g x (kInst K dx (.int i t)) K (some ⟨.type "dict", none, .dict #[] 0, #[]⟩)).type
  case call =>
    intro E h tk i t Q hi hk hQ
    exact kcall_Q (s := { s with heap := h, toks := tk }) (KI.keeps hk) B (Stays.fr hk F) KX T rfl hdep hf hke fun x dx h' tk' ss _ _ b1 b2 => hQ h' tk' _ ss ⟨x, dx, t, rfl, b1, b2⟩
  case lt =>
    rintro E g tk i j _ _ C hi hj hk ⟨x, dx, t, rfl, b1, b2⟩ ⟨y, dy, t', rfl, c1, c2⟩ hC
    refine lt_K (s := { s with heap := g, toks := tk }) hns LC hfn (fun b o e => hk _ _ (hst _ _ e)) (KI.keeps hk) hi hj b1 b2 c1 c2 B (Stays.fr hk F) KX (Stays.news hk N) T rfl rfl hdep (by k_units) hf hke fun h' tk' ss => ?_
    have e : cmpD d i j = decide (d i - d j < 0) := decide_eq_decide.mpr (by omega)
    rw [← e]
    exact hC h' tk' ss
end
end Mine
end

section
open PySem PySem.W PyProof.Rows
namespace Mine
local macro_rules | `(tactic| walk_at "no goal") => `(tactic| skip)
theorem freshE5 : True ∧ True := by
  k_with_none
  w_top off
  first | (walk1; done) | exact ⟨trivial, trivial⟩
end Mine
end

/-! part E5 -/
section
open PySem PySem.W PySem.W.X PyProof.Rows PySem.Calls
set_option maxRecDepth 100000
set_option maxHeartbeats 4000000
namespace Mine
section
variable {prog : Program} {w : World} {A : Around} {E : Value → Shared → Prop} {s : Shared} {env : Env}
/-- a comprehension over a list that its head makes -/
theorem comp_new {elt iter : Expr} {x : Str} {px : Pos} {ifs : List Expr} {scope : Scope} {cl : List (Str × Addr)} {pos : Pos} {Q : Value → Shared → Prop} {Good : List Value → Prop} {Mid : Heap → Prop} {p : Value → Bool} {G : Value → Value → Prop}
    (hh : A.handled = none) (hclos : closureFor scope env = pure cl) (hcell : ∀ y ∈ scope.names, y.2 ≠ .cell) (hkind : scope.kind = .function)
    (hnames : ∀ y ∈ scope.names, y.2 = .local → scope.names.lookup y.1 = some .local) (hx : scope.names.lookup x = some .local)
    (hit : ∀ R : Value → Shared → Prop, (∀ l vs h₁ tk₁, Good vs → vs.length ≤ 1000 → h₁.IsList l vs.toArray → Mid h₁ → R (.ref l) { s with heap := h₁, toks := tk₁ }) → wpAny (model prog w) A (eval iter env) R E s)
    (htests : ∀ C v s₂ m₂ E', (∃ h₁, Mid h₁ ∧ Stays h₁ s₂.heap ∧ ∀ b o, h₁.get? b = some o → b < C) → (∃ vs, Good vs ∧ v ∈ vs) → s₂.heap.Ns C m₂ → m₂ x = some v →
      wpAny (model prog w) A (forIn ifs true fun c r => if r = true then do let ok ← isTrue c (compEnvC scope cl C env) (eval c (compEnvC scope cl C env)); pure (ForInStep.yield ok) else pure (ForInStep.yield r))
          (fun ok s₃ => ok = p v ∧ Keeps s₂ s₃) E' s₂)
    (helt : ∀ C v s₂ m₂ E', (∃ h₁, Mid h₁ ∧ Stays h₁ s₂.heap ∧ ∀ b o, h₁.get? b = some o → b < C) → (∃ vs, Good vs ∧ v ∈ vs) → p v = true → s₂.heap.Ns C m₂ → m₂ x = some v →
        wpAny (model prog w) A (eval elt (compEnvC scope cl C env)) (fun y s₃ => G v y ∧ Keeps s₂ s₃) E' s₂)
    (hQ : ∀ D (ys vs : List Value) h₁ h' tk, Good vs → Mid h₁ → h₁.get? D = none → h'.IsList D ys.toArray → h'.PlainList D ys.toArray → Paired G (vs.filter p) ys → Stays h₁ h' → Q (.ref D) { s with heap := h', toks := tk })
    (hs : ∀ x, foldedSetIterable iter env x = pure x) :
    wpAny (model prog w) A (eval (.ListComp elt [⟨.Name x px, iter, ifs, 0⟩] scope pos) env) Q E s := by
  refine wpAny_ListComp_free p G hclos hcell hkind hnames hx (hit _ fun l vs h₁ tk₁ hgood hn hl hmid => ?_) hs
  have hlt : l < h₁.objs.size := by obtain ⟨_, e, _⟩ := hl; exact Heap.lt_size e
  have up : ∀ (h₃ : Heap), (∀ b o, b ∉ [h₁.objs.size] → (h₁.push { cls := .type "list_iterator", data := .fields #[.ref l, .int 0 0] }).get? b = some o → h₃.get? b = some o) → Stays h₁ h₃ :=
    fun h₃ hk b o e => hk b o (fun hm => by rcases List.mem_cons.mp hm with rfl | hm; exact Nat.lt_irrefl _ (Heap.lt_size e); cases hm) (Heap.get?_push_of_some _ e)
  have fresh : ∀ C, (h₁.push { cls := .type "list_iterator", data := .fields #[.ref l, .int 0 0] }).objs.size ≤ C → ∀ b o, h₁.get? b = some o → b < C := fun C hC b o e => by
    rw [Heap.size_push] at hC
    exact Nat.lt_of_lt_of_le (Nat.lt_succ_of_lt (Heap.lt_size e)) hC
  refine wpAny_pyIter_list (s := { s with heap := h₁, toks := tk₁ }) hl ⟨h₁.objs.size, [h₁.objs.size, l], [h₁.objs.size], vs.toArray.size, _, _, rfl, Walks.list hh _ _ (Nat.ne_of_lt hlt) vs.toArray, (by rw [List.size_toArray, sizeLine_eq]; omega), ⟨⟨_, Heap.get?_push_size _ rfl, rfl, rfl⟩, hl.push _⟩, ?_, ⟨?_, ?_⟩, ?_⟩
  · intro b hb
    show b < (h₁.push _).objs.size
    rw [Heap.size_push]
    rcases List.mem_cons.mp hb with rfl | hb
    · exact Nat.lt_succ_self _
    · rcases List.mem_cons.mp hb with rfl | hb
      · exact Nat.lt_succ_of_lt hlt
      · cases hb
  · intro C i v s₃ m₃ E' hC hP hn' hm hk _
    exact htests C v s₃ m₃ E' ⟨h₁, hmid, up _ hk, fresh C hC⟩ ⟨vs, hgood, by simpa using Array.mem_of_getElem? hP⟩ hn' hm
  · intro C i v s₃ m₃ E' hC hP hp hn' hm hk _
    exact helt C v s₃ m₃ E' ⟨h₁, hmid, up _ hk, fresh C hC⟩ ⟨vs, hgood, by simpa using Array.mem_of_getElem? hP⟩ hp hn' hm
  · intro D h' tk ys vs' hnew hlD hplD hlen hP hF hk
    have e : vs' = vs := by simpa using list_of_places hlen hP
    subst e
    refine hQ D ys.toList vs' h₁ h' tk hgood hmid ?_ (by rw [Array.toArray_toList]; exact hlD) (by rw [Array.toArray_toList]; exact hplD) hF (up h' hk)
    cases e : h₁.get? D with
    | none => rfl
    | some o => rw [Heap.get?_push_of_some _ e] at hnew; cases hnew
end
end Mine
end

section
open PySem PySem.W PyProof.Rows
namespace Mine
local macro_rules | `(tactic| walk_at "no goal") => `(tactic| skip)
local macro_rules | `(tactic| walk_at "no goal") => `(tactic| skip)
theorem freshM1 : True ∧ True := by
  k_with_none
  w_top off
  first | (walk1; done) | exact ⟨trivial, trivial⟩
end Mine
end

/-! part M1 -/
section
open PySem PySem.W PySem.W.X PyProof.Rows PySem.Calls
set_option maxRecDepth 100000
set_option maxHeartbeats 4000000
namespace Mine
local macro_rules | `(tactic| omega) => `(tactic| lia)
local macro_rules | `(tactic| walk_at $s:str) => `(tactic| k_extra $s)
def fdAt (o : Option Obj) : FuncData := match o with | some ⟨_, _, .func fd, _⟩ => fd | _ => default
def bodyOf (fd : FuncData) : List Stmt := match fd.body with | .stmts b => b | _ => []
noncomputable def lawFd (w : World) : FuncData := fdAt ((hd.heap_1 w.params).lookup 230)
noncomputable def lawEnv (w : World) (L fa : Addr) : Env := envOfC (lawFd w).name (lawFd w).scope L fa (.ref 229)
noncomputable def lawBody (w : World) : List Stmt := bodyOf (lawFd w)
theorem fd_pick {w : World} {oc : Value} {od : Option Addr} {fd : FuncData} {os : Array (Option Value)} (h : (hd.heap_1 w.params).lookup 230 = some ⟨oc, od, .func fd, os⟩) : lawFd w = fd := by
  unfold lawFd; rw [h]; rfl
def Marker : Prop := True
theorem staysBut_news {h₀ h h' : Heap} {L : Addr} {news keep : List (Addr × Obj)} (k : StaysBut keep h h') (N : News h₀ L h news) (hn : ∀ p ∈ news, p.1 ∉ keep.map (·.1)) : News h₀ L h' news := fun p hp => ⟨k _ _ (hn p hp) (N p hp).1, (N p hp).2⟩
theorem staysBut_upd {h₀ h h' : Heap} {L a : Addr} {o o' o₀ : Obj} {news news' : List (Addr × Obj)} (U : Upd a o o' news news') (N : News h₀ L h news) (k : StaysBut [(a, o₀)] h h') (e : h'.get? a = some o') : News h₀ L h' news' := by
  refine Classical.byContradiction fun hn9 => ?_
  obtain ⟨pre, post, rfl, rfl, x, y⟩ := U.split
  refine hn9 ?_
  clear hn9
  have na := N (a, o) (List.mem_append_right _ (.head _))
  have key : ∀ p, p ∈ pre ++ (a, o) :: post → p.1 ≠ a → h'.get? p.1 = some p.2 ∧ p.1 ≠ L ∧ h₀.get? p.1 = none := fun p hp hne => ⟨k _ _ (fun q => hne (List.mem_singleton.mp q)) (N p hp).1, (N p hp).2⟩
  intro p hp
  rcases List.mem_append.mp hp with hp | hp
  · exact key p (List.mem_append_left _ hp) (x p hp)
  · rcases List.mem_cons.mp hp with rfl | hp
    · exact ⟨e, na.2⟩
    · exact key p (List.mem_append_right _ (.tail _ hp)) (y p hp)
theorem staysBut_fr {h₀ h h' : Heap} {L : Addr} {m : Str → Option Value} {keep : List (Addr × Obj)} (k : StaysBut keep h h') (F : Fr h₀ L h m) (hL : L ∉ keep.map (·.1)) (h0 : ∀ b ∈ keep.map (·.1), h₀.get? b = none) : Fr h₀ L h' m := by
  refine Classical.byContradiction fun hn9 => ?_
  obtain ⟨oL, es, ep, e, r⟩ := F.ns
  refine hn9 ?_
  clear hn9
  exact ⟨⟨oL, es, ep, k _ _ hL e, r⟩, fun b o e => k b o (fun hb => by rw [h0 b hb] at e; cases e) (F.keep b o e), F.above⟩
section
local macro_rules | `(tactic| k_room) => `(tactic| ((try simp only [depth_under_make, depth_under_kw, depth_in1, depth_deeper, depth_caller]); first | decide | (have : recursionLimit = 1000 := by decide
                                                                                                                                                                 omega)))
variable {w : World} {base h₀ : Heap} {E : Value → Shared → Prop} {s : Shared} {L l fa : Addr} {mg mb : Str → Option Value} {pp : Program} {loose : List Str} {mean : ExcName → Option Value} {Q : Flow → Shared → Prop}
theorem law_pre {vs : List Value} {zs : List Int} {od op : Obj} (hl : h₀.IsList l vs.toArray) (hi : IntsAre vs zs) (hlen : zs.length ≤ 63)
    (B : Below callerA base [] h₀) (F : Fr h₀ L s.heap (bindL (lawEnv w L fa).kindOf [(Str.ofString "script", .ref l)] fun _ => none)) (KX : (hd.heap_1 w.params).In h₀) (KB : (Kbig w.params).In h₀)
    (N : News h₀ L s.heap [(L + 2, od), (L + 1, op), (107, tabObj #[]), (227, tabObj #[]), (70, tabObj #[])]) (hod : od.data = .cell none) (hop : op.data = .cell none) (T : Top pp loose mean mg mb h₀)
    (C2 : CodeHd h₀ 229 227) (l0 : (107 : Nat) < L ∧ (227 : Nat) < L ∧ (70 : Nat) < L)
    (h : ∀ D O (ys : List Value) (ds : List Int) nD nO (ord : List Nat) (tks : Nat → Tok) o2 tb tc m' h' tk, ds = (zs.take 6 ++ [2, 5, 3]).map (fun z : Int => 1 + z.fmod 4) → IntsAre ys ds → ord.Perm (List.range ds.length) → ord.Pairwise (Bef fun i => ds.getD i 0) →
      o2.data = .cell (some (.ref D)) → m' (Str.ofString "order") = some (.ref O) → Fr h₀ L h' m' → News h₀ L h' [(O, listOf (ord.map fun i : Nat => Value.int (i : Int) (tks i)).toArray nO), (D, listOf ys.toArray nD), (L + 2, o2), (L + 1, op), (107, tabObj tb), (227, tabObj tc), (70, tabObj #[])] →
      (@Ne Nat O D ∧ @Ne Nat O (@HAdd.hAdd Nat Nat Nat instHAdd L 2) ∧ @Ne Nat O (@HAdd.hAdd Nat Nat Nat instHAdd L 1) ∧ @Ne Nat O 107 ∧ @Ne Nat O 227 ∧ @Ne Nat O 70) →
      (@Ne Nat (@HAdd.hAdd Nat Nat Nat instHAdd L 2) D ∧ @Ne Nat (@HAdd.hAdd Nat Nat Nat instHAdd L 1) D ∧ @Ne Nat 107 D ∧ @Ne Nat 227 D ∧ @Ne Nat 70 D) →
      wpAny (model PySem.Challenge.pw_qw0044_01 w) (callerA.deeper (lawEnv w L fa)) (execs ((lawBody w).drop 2) (lawEnv w L fa)) Q E { s with heap := h', toks := tk }) :
    wpAny (model PySem.Challenge.pw_qw0044_01 w) (callerA.deeper (lawEnv w L fa)) (execs (lawBody w) (lawEnv w L fa)) Q E s := by
  k_with_none
  k_with "eval ListComp" => ((k_here; refine Halt.of ?_))
  k_with "eval Lambda" => ((k_here; (fail_if_success (have : Marker := by assumption)); refine Halt.of ?_))
  k_with "call builtin:sorted" => ((k_here; refine Halt.of ?_))
  k_with "call ref" => ((k_here; (with_reducible show wpAny _ _ (PySem.call (Value.ref 112) _) _ _ _); refine Halt.of ?_))
  revert KX
  have h0 : PySem.Challenge.rw_qw0044_01.Holds ∨ True := .inr trivial
  revert h0
  k_fill
  intro h0 KX
  clear h0
  refine' (fun e3 => ?main) (fd_pick (w := w) ?hp)
  case hp => k_is
  rotate_left
  unfold lawBody lawEnv at *
  rw [e3] at F h ⊢
  dsimp only [bodyOf, List.drop] at F h ⊢
  k_steps
  refine Halt.go ?_
  refine' comp_new (Good := fun us => IntsAre us (zs.take 6 ++ [2, 5, 3])) (Mid := fun h₁ => Fr h₀ L h₁ ?mm ∧ News h₀ L h₁ [(L + 2, od), (L + 1, op), (107, tabObj #[]), (227, tabObj #[]), (70, tabObj #[])]) (p := fun _ => true) (G := fun v y => ∃ t, y = .int (1 + (numOf v).fmod 4) t) rfl rfl (by decide) rfl (by decide) rfl ?hit ?htests ?helt ?hQ (fun _ => rfl)
  case hit =>
    intro R hR
    k_steps
    rename IntsAre _ (List.take 6 zs ++ [2, 5, 3]) => hI9
    rename News _ _ _ _ => N9
    refine hR _ _ _ _ hI9 ?_ ?_ ⟨by assumption, News.drop1 (News.drop1 (News.drop1 N9))⟩
    · rw [hI9.length, List.length_append, List.length_take]
      show min 6 zs.length + 3 ≤ 1000
      omega
    · exact ⟨_, (N9 _ (.head _)).1, rfl, _, rfl⟩
  case htests => intros; exact no_test
  case helt =>
    rintro C v s₂ m₂ E' ⟨h₁, ⟨F1, N1⟩, hk, hC⟩ ⟨us, hus, hv⟩ _ hn hm
    have hL1 : L < C := by
      refine Classical.byContradiction fun hn9 => ?_
      obtain ⟨oL, _, _, e, _⟩ := F1.ns
      refine hn9 ?_
      clear hn9
      exact hC _ _ e
    have F2 : Fr h₀ C s₂.heap m₂ := ⟨hn, fun b o e => hk _ _ (F1.keep b o e), Nat.le_trans F1.above (Nat.le_of_lt hL1)⟩
    have N2 : News h₀ C s₂.heap _ := fun p hp => ⟨hk _ _ (N1 p hp).1, Nat.ne_of_lt (hC _ _ (N1 p hp).1), (N1 p hp).2.2⟩
    obtain ⟨z, t, rfl⟩ := hus.all _ hv
    k_steps
    case refine_2.refine_2 => exact ⟨_, _, rfl, fun _ _ e => e⟩
    all_goals exact rfl
  case hQ => 
    intro D ys us h₁ h' tk hgood hmid hD hl2 hpl hpr hst
    obtain ⟨F1, N1⟩ := hmid
    have F2 := hst.fr F1
    have hgm : ∀ (us : List Value) (l : List Int) (ys : List Value), IntsAre us l → Paired (fun v y => ∃ t, y = .int (1 + (numOf v).fmod 4) t) (us.filter fun _ => true) ys → IntsAre ys (l.map fun z => 1 + z.fmod 4) := by
      intro us
      induction us with
      | nil => intro l ys h1 h2; cases h1; cases h2; exact .nil
      | cons a us ih =>
        intro l ys h1 h2
        cases h1 with
        | cons z t h1 =>
          cases h2 with
          | cons h3 h2 =>
            obtain ⟨t', e⟩ := h3
            subst e
            exact .cons _ t' (ih _ _ h1 h2)
    have hys := hgm _ _ _ hgood hpr
    clear hgm hpr
    generalize hds : (zs.take 6 ++ [2, 5, 3]).map (fun z : Int => 1 + z.fmod 4) = ds at hys
    have hdlen : 3 ≤ ds.length ∧ ds.length ≤ 9 := by
      rw [← hds, List.length_map, List.length_append, List.length_take]
      show 3 ≤ min 6 zs.length + 3 ∧ min 6 zs.length + 3 ≤ 9
      omega
    have hd14 : ∀ d ∈ ds, 1 ≤ d ∧ d ≤ 4 := by
      rw [← hds]
      intro d hd
      obtain ⟨z, _, rfl⟩ := List.mem_map.mp hd
      have := Int.fmod_nonneg (a := z) (b := 4)
      have h1 := Int.fmod_lt_of_pos z (b := 4) (by decide)
      have h2 : 0 ≤ z.fmod 4 := Int.fmod_nonneg_of_pos z (by decide)
      omega
    obtain ⟨nD, hDo⟩ := hpl
    have hD0 : h₀.get? D = none := by
      cases e : h₀.get? D with
      | none => rfl
      | some o => rw [F1.keep _ _ e] at hD; cases hD
    have hDL : D ≠ L := fun e => by
      refine Classical.byContradiction fun hn9 => ?_
      obtain ⟨oL, _, _, e2, _⟩ := F1.ns
      refine hn9 ?_
      clear hn9
      rw [← e, hD] at e2; cases e2
    have N2 : News h₀ L h' [(D, listOf ys.toArray nD), (L + 2, od), (L + 1, op), (107, tabObj #[]), (227, tabObj #[]), (70, tabObj #[])] := fun p hp => by
      rcases List.mem_cons.mp hp with rfl | hp
      · exact ⟨hDo, hDL, hD0⟩
      · exact hst.news N1 p hp
    have l2 : ∀ p ∈ [(L + 2, od), (L + 1, op), (107, tabObj #[]), (227, tabObj #[]), (70, tabObj #[])], p.1 ≠ D := fun p hp e => by
      have := (N1 p hp).1
      rw [e, hD] at this; cases this
    have l3 : @Ne Nat (@HAdd.hAdd Nat Nat Nat instHAdd L 2) D ∧ @Ne Nat (@HAdd.hAdd Nat Nat Nat instHAdd L 1) D ∧ @Ne Nat 107 D ∧ @Ne Nat 227 D ∧ @Ne Nat 70 D := ⟨l2 (L + 2, od) (by k_mem), l2 (L + 1, op) (by k_mem), l2 (107, tabObj #[]) (by k_mem), l2 (227, tabObj #[]) (by k_mem), l2 (70, tabObj #[]) (by k_mem)⟩
    clear hD l2 hst F1 N1 F
    k_steps
    rename ∀ b o, _ → _ => hkp
    rename IsRange _ _ _ _ _ _ _ _ => hr
    rename News _ _ _ _ => N3
    rename Fr _ _ _ _ => F3
    rename_i h2 o2 F2 N2' d2 h3 tk3 t1 u1 v1
    have hr4 : ∀ b o, h2.get? b = some o → @LT.lt Nat _ b h2.objs.size := fun b o e => Heap.lt_size e
    have hrn : h₀.get? h2.objs.size = none := Heap.get?_none_of_le (Nat.le_trans F2.above (Nat.le_of_lt F2.ns.lt))
    have hrL : h2.objs.size ≠ L := Nat.ne_of_gt F2.ns.lt
    dsimp only at hr
    have l4 : @LT.lt Nat _ D h2.objs.size ∧ @LT.lt Nat _ (L + 1 + 1) h2.objs.size ∧ @LT.lt Nat _ (L + 1) h2.objs.size ∧ @LT.lt Nat _ 107 h2.objs.size ∧ @LT.lt Nat _ 227 h2.objs.size ∧ @LT.lt Nat _ 70 h2.objs.size := ⟨hr4 _ _ (N2' (D, _) (by k_mem)).1, hr4 _ _ (N2' (L + 1 + 1, _) (by k_mem)).1, hr4 _ _ (N2' (L + 1, _) (by k_mem)).1, hr4 _ _ (N2' (107, _) (by k_mem)).1, hr4 _ _ (N2' (227, _) (by k_mem)).1, hr4 _ _ (N2' (70, _) (by k_mem)).1⟩
    clear hr4
    generalize h2.objs.size = r at *
    have N4 : News h₀ L h3 ((r, ({ cls := .type "range", data := .fields #[.int 0 t1, .int (ds.length : Int) u1, .int 1 v1] } : Obj)) :: [(D, listOf ys.toArray nD), (L + 1 + 1, o2), (L + 1, op), (107, tabObj #[]), (227, tabObj #[]), (70, tabObj #[])]) := fun p hp => by
      rcases List.mem_cons.mp hp with rfl | hp
      · exact ⟨hr, hrL, hrn⟩
      · exact N3 p hp
    clear N3 N2' F2 hkp hr
    have mk : Marker := trivial
    refine Halt.go ?_
    k_steps
    refine Halt.go ?_
    rename_i f4 c4 oc4 vs4 t4 ct4 h4 tk4 F4 N5 e1 e2 l5 l6
    clear F3 N4
    refine cmp_K B F4 KX KB (fun p hp => N5 p (by rw [List.mem_singleton.mp hp]; k_mem)) T rfl rfl fun K h6 tk6 tb6 kb6 h107 KI6 => ?_
    have F6 := staysBut_fr kb6 F4 (fun e => (N5 (107, tabObj #[]) (by k_mem)).2.1 (List.mem_singleton.mp e).symm) (fun b hb => by rw [List.mem_singleton.mp hb]; exact (N5 (107, tabObj #[]) (by k_mem)).2.2)
    have N6 := staysBut_upd (by k_upd) N5 kb6 h107
    clear F4
    have LC : LamC w pp loose mean mg mb f4 [(L + 1 + 1, o2), (D, listOf ys.toArray nD)] (fun i j => ds.getD i 0 - ds.getD j 0) ds.length h6 := by
      intro A6 A7 base6 h6 outer6 env6 E6 s6 L6 m6 Q6 i j ti tj hi6 hj6 st6 hd6 hh6 hA6 hf6 hk6 B6 F8 KX6 T6 N9 hQ6
      refine wpAny_call ?_
      refine' enter_XE (K := hd.heap_1 w.params) B6 F8 KX6 N9 T6 hA6 hf6 hk6 ?ho ?k7 ?k8 ?k9 ?kB ?_ ?c2 ?c3 ?c4 ?c5
      case ho => exact st6 _ _ (N6 (f4, _) (by k_mem)).1
      case k7 => exact (codeRec_news N6 (by k_mem) e1 e2).keeps st6
      case k8 => 
        have : recursionLimit = 1000 := by decide
        omega
      case k9 => exact BindsTo.of_eq rfl
      case kB => exact locs rfl
      case c2 => rfl
      case c3 => rfl
      case c4 => rfl
      case c5 => decide
      intro g7 L7 h7 kb7 FG7 F7 N7 st7 B7 X7 T7
      (try dsimp only)
      (try k_lift B7)
      have b1 : (0 : Int) ≤ (i : Int) ∧ (i : Int) < ds.length := by omega
      have b2 : (0 : Int) ≤ (j : Int) ∧ (j : Int) < ds.length := by omega
      k_steps
      intro kS
      exact hQ6 _ _ _ (kS.stays (fun p hp => (N9 p hp).1) fun p hp => (N7 p hp).1)
    have hfn : FnAt f4 h6 := ⟨_, _, _, _, (N6 (f4, _) (by k_mem)).1⟩
    k_steps
    refine Halt.go ?_
    refine order_K rfl LC hfn Stays.refl KI6 (N6 (r, _) (by k_mem)).1 (by omega) (by omega) B F6 KX (fun p hp => N6 p (by
      rcases List.mem_cons.mp hp with rfl | hp
      · k_mem
      · rw [List.mem_singleton.mp hp]; k_mem)) T rfl rfl fun O h7 tk7 c7 ord tks k7 hO7 hOo hperm hpw => ?_
    have F7 := k7.fr F6
    have N7 := k7.news N6
    have hO6 : h6.get? O = none := hO7
    have lO : ∀ a o, h6.get? a = some o → O ≠ a := fun a o q e => by
      rw [← e, hO6] at q; cases q
    have hO0 : h₀.get? O = none := by
      cases e : h₀.get? O with
      | none => rfl
      | some o => rw [F6.keep _ _ e] at hO6; cases hO6
    have hOL : O ≠ L := fun e => by
      refine Classical.byContradiction fun hn9 => ?_
      obtain ⟨oL, _, _, e2, _⟩ := F6.ns
      refine hn9 ?_
      clear hn9
      exact lO _ _ e2 e
    have N8 : News h₀ L h7 ((O, listOf (ord.map fun i : Nat => Value.int (i : Int) (tks i)).toArray c7) :: _) := fun p hp => by
      rcases List.mem_cons.mp hp with rfl | hp
      · exact ⟨hOo, hOL, hO0⟩
      · exact N7 p hp
    refine storeX_L F7 N8 (fun h8 F8 N9 => ?_) rfl rfl
    refine' h D O ys ds nD c7 ord tks o2 tb6 ?tc _ h8 _ hds.symm hys hperm hpw d2 ?hmo F8 (fun p (hp : p ∈ _) => ?hmem) ⟨lO D _ (N6 (D, _) (by k_mem)).1, lO _ _ (N6 (L + 1 + 1, _) (by k_mem)).1, lO _ _ (N6 (L + 1, _) (by k_mem)).1, lO _ _ (N6 (107, _) (by k_mem)).1, lO _ _ (N6 (227, _) (by k_mem)).1, lO _ _ (N6 (70, _) (by k_mem)).1⟩ l3
    case hmo => rfl
    case hmem =>
      refine N9 p ?_
      rcases List.mem_cons.mp hp with rfl | hp
      · k_mem
      rcases List.mem_cons.mp hp with rfl | hp
      · k_mem
      rcases List.mem_cons.mp hp with rfl | hp
      · k_mem
      rcases List.mem_cons.mp hp with rfl | hp
      · k_mem
      rcases List.mem_cons.mp hp with rfl | hp
      · k_mem
      rcases List.mem_cons.mp hp with rfl | hp
      · k_mem
      · rw [List.mem_singleton.mp hp]; k_mem
end
end Mine
end

section
open PySem PySem.W PyProof.Rows
namespace Mine
local macro_rules | `(tactic| walk_at "no goal") => `(tactic| skip)
theorem freshMA : True ∧ True := by
  k_with_none
  w_top off
  first | (walk1; done) | exact ⟨trivial, trivial⟩
end Mine
end

/-! part MA -/
section
open PySem PySem.W PySem.W.X PyProof.Rows PySem.Calls
set_option maxRecDepth 100000
set_option maxHeartbeats 4000000
namespace Mine
section
variable {prog : Program} {w : World} {A : Around} {E : Value → Shared → Prop} {s : Shared} {p d L : Addr} {h₀ : Heap} {m : Str → Option Value} {news : List (Addr × Obj)} {its : List Value} {n : Nat} {tn : Tok} {v : Value} {pl : Sem Bool} {Q : Value × List Value → Shared → Prop}
theorem fi_push (P : Params) : findIn (hd.heap_1 P) (.ref 101) (Str.ofString "push") = some (some (.ref 45)) := by kernel_rfl
theorem fi_popm (P : Params) : findIn (hd.heap_1 P) (.ref 101) (Str.ofString "pop") = some (some (.ref 61)) := by kernel_rfl
theorem fc_45 (P : Params) : ((hd.heap_1 P).lookup 45).map Obj.cls = some (.type "function") := by kernel_rfl
theorem fc_61 (P : Params) : ((hd.heap_1 P).lookup 61).map Obj.cls = some (.type "function") := by kernel_rfl
theorem pile_m_push (F : Fr h₀ L s.heap m) (X₀ : (hd.heap_1 w.params).In h₀) (N : News h₀ L s.heap news)
    (h1 : (p, pileObj d its n) ∈ news) (h2 : (d, iniD w tn v) ∈ news) (h : Q (.ref 45, [.ref p]) s) : wpAny (model prog w) A (getMethod (.ref p) (Str.ofString "push") pl) Q E s :=
  method_pl (X₀.keeps F.keep) (pile_inst N h1 h2) (fi_push _) (fn_of (X₀.keeps F.keep) (fc_45 _)) (by decide) (sh_pile (by rfl)) h
theorem pile_m_pop (F : Fr h₀ L s.heap m) (X₀ : (hd.heap_1 w.params).In h₀) (N : News h₀ L s.heap news)
    (h1 : (p, pileObj d its n) ∈ news) (h2 : (d, iniD w tn v) ∈ news) (h : Q (.ref 61, [.ref p]) s) : wpAny (model prog w) A (getMethod (.ref p) (Str.ofString "pop") pl) Q E s :=
  method_pl (X₀.keeps F.keep) (pile_inst N h1 h2) (fi_popm _) (fn_of (X₀.keeps F.keep) (fc_61 _)) (by decide) (sh_pile (by rfl)) h
end
end Mine
end

section
open PySem PySem.W PyProof.Rows
namespace Mine
local macro_rules | `(tactic| walk_at "no goal") => `(tactic| skip)
local macro_rules | `(tactic| walk_at "no goal") => `(tactic| skip)
theorem freshM2 : True ∧ True := by
  k_with_none
  w_top off
  first | (walk1; done) | exact ⟨trivial, trivial⟩
end Mine
end

/-! part M2 -/
section
open PySem PySem.W PySem.W.X PyProof.Rows PySem.Calls
set_option maxRecDepth 100000
set_option maxHeartbeats 4000000
namespace Mine
local macro_rules | `(tactic| omega) => `(tactic| lia)
local macro_rules | `(tactic| walk_at $s:str) => `(tactic| k_extra $s)
theorem m_skip {x y : Str} {v : Option Value} {m : Str → Option Value} {r : Option Value} (h : (x == y) = false) (q : m x = r) : (fun z => if z = y then v else m z) x = r := by
  have : x ≠ y := fun e => by subst e; simp at h
  dsimp only
  rw [if_neg this]; exact q
theorem m_hit {x : Str} {v : Option Value} {m : Str → Option Value} : (fun z => if z = x then v else m z) x = v := if_pos rfl
theorem subL_mem : ∀ {b a : List (Addr × Obj)}, SubL b a → ∀ p ∈ b, p ∈ a
  | [], _, _, _, hp => nomatch hp
  | _ :: _, _, h, p, hp => by
    rcases List.mem_cons.mp hp with rfl | hp
    · exact h.1
    · exact subL_mem h.2 p hp
theorem news_re {h₀ h : Heap} {L : Addr} {a b : List (Addr × Obj)} (N : News h₀ L h a) (x : SubL b a) : News h₀ L h b := fun p hp => N p (subL_mem x p hp)
theorem NotIn.ne_p {p d : Addr} {rest : List (Addr × Obj)} (h : NotIn p d rest) {a : Addr} {o : Obj} (hm : (a, o) ∈ rest) : @Ne Nat a p := (NotIn.all2 (o := o) h) (a, o) (.tail _ hm)
theorem NotIn.ne_d {p d : Addr} {rest : List (Addr × Obj)} {o : Obj} (h : NotIn p d rest) : @Ne Nat d p := (NotIn.all2 (o := o) h) (d, o) (.head _)
section
local macro_rules | `(tactic| k_room) => `(tactic| ((try simp only [depth_under_make, depth_under_kw, depth_in1, depth_deeper, depth_caller]); first | decide | (have : recursionLimit = 1000 := by decide
                                                                                                                                                                 omega)))
local macro_rules | `(tactic| k_inst) => `(tactic| exact pile_inst (by k_asm) (by k_mem) (by k_mem))
local macro_rules | `(tactic| k_types) => `(tactic| first | with_reducible assumption | (apply And.right; first | with_reducible assumption | (apply And.right; first | with_reducible assumption | (apply And.right; first | with_reducible assumption | (apply And.right; first | with_reducible assumption | (apply And.right; first | with_reducible assumption | (apply And.right; first | with_reducible assumption | (apply And.right; first | with_reducible assumption | (apply And.right; first | with_reducible assumption | (apply And.right; first | with_reducible assumption | (apply And.right; first | with_reducible assumption | (apply And.right; first | with_reducible assumption | (apply And.right; first | with_reducible assumption | (apply And.right; first | with_reducible assumption | (apply And.right; with_reducible assumption)))))))))))))))
local macro_rules | `(tactic| k_ne) => `(tactic| (refine neN ?_; (try dsimp only); first | (first | k_types | (apply And.left; k_types)) | (refine Ne.symm ?_; (first | k_types | (apply And.left; k_types))) | (refine Nat.ne_of_lt ?_; (first | k_types | (apply And.left; k_types))) | (refine Nat.ne_of_gt ?_; (first | k_types | (apply And.left; k_types)))))
variable {w : World} {base h₀ : Heap} {E : Value → Shared → Prop} {s : Shared} {L l fa : Addr} {mg mb : Str → Option Value} {pp : Program} {loose : List Str} {mean : ExcName → Option Value} {Q : Flow → Shared → Prop}
theorem law_init {D O : Addr} {oO oD o2 op : Obj} {tb1 tc : Array Value} {m : Str → Option Value}
    (B : Below callerA base [] h₀) (F : Fr h₀ L s.heap m) (KX : (hd.heap_1 w.params).In h₀) (KB : (Kbig w.params).In h₀)
    (hm : m (Str.ofString "order") = some (.ref O)) (hop : op.data = .cell none) (N : News h₀ L s.heap [(O, oO), (D, oD), (L + 2, o2), (L + 1, op), (107, tabObj tb1), (227, tabObj tc), (70, tabObj #[])])
    (n1 : @Ne Nat O D ∧ @Ne Nat O (@HAdd.hAdd Nat Nat Nat instHAdd L 2) ∧ @Ne Nat O (@HAdd.hAdd Nat Nat Nat instHAdd L 1) ∧ @Ne Nat O 107 ∧ @Ne Nat O 227 ∧ @Ne Nat O 70)
    (n2 : @Ne Nat (@HAdd.hAdd Nat Nat Nat instHAdd L 2) D ∧ @Ne Nat (@HAdd.hAdd Nat Nat Nat instHAdd L 1) D ∧ @Ne Nat 107 D ∧ @Ne Nat 227 D ∧ @Ne Nat 70 D)
    (T : Top pp loose mean mg mb h₀) (l0 : (107 : Nat) < L ∧ (227 : Nat) < L ∧ (70 : Nat) < L) (G : AllBare s.gens)
    (h : ∀ p d TO TU PL tn (q : Piece) np nPl tb gs dr o1 tv m' h' tk, q.b = false → m' (Str.ofString "order") = some (.ref O) → m' (Str.ofString "pile") = some (.ref p) → m' (Str.ofString "turns") = some (.ref TU) → m' (Str.ofString "told") = some (.ref TO) →
      o1.data = .cell (some (.ref PL)) → TabOk strPos tb → AllBare gs → Fr h₀ L h' m' →
      News h₀ L h' [(p, pileObj d [.ref q.a] np), (d, iniD w tn (.int 0 210)), (70, tabObj tb), (TO, listOf #[] 0), (TU, listOf #[] 0), (PL, listOf #[.str (pathOf [false]) tv] nPl), (L + 2, o2), (L + 1, o1), (D, oD), (107, tabObj tb1), (227, tabObj tc), (O, oO), (q.a, q.obj)] →
      List.Nodup ([p, d, 70, TO, TU, PL, L + 2, L + 1, D, 107, 227, O, q.a] : List Nat) →
      wpAny (model PySem.Challenge.pw_qw0044_01 w) (callerA.deeper (lawEnv w L fa)) (execs ((lawBody w).drop 7) (lawEnv w L fa)) Q E { s with heap := h', gens := gs, drawn := dr, toks := tk }) :
    wpAny (model PySem.Challenge.pw_qw0044_01 w) (callerA.deeper (lawEnv w L fa)) (execs ((lawBody w).drop 2) (lawEnv w L fa)) Q E s := by
  k_with_none
  k_with "call ref" => ((k_here; refine Halt.of ?_))
  k_with "execs cons" => ((k_here; (with_reducible show wpAny _ _ (execs (Stmt.For _ _ _ _ _ :: _) _) _ _ _); refine Halt.of ?_))
  k_with "getMethod ref" => ((k_here; (with_reducible show wpAny _ _ (getMethod (Value.ref _) (PySem.Str.ofString "push") _) _ _ _); k_dflt (refine' pile_m_push ?F ?X ?N ?h1 ?h2 ?_; (case F => k_asm); (case X => k_asm); (case N => k_asm); (case h1 => k_mem); (case h2 => k_mem)); (try dsimp only)))
  revert KX
  have h0 : PySem.Challenge.rw_qw0044_01.Holds ∨ True := .inr trivial
  revert h0
  k_fill
  intro h0 KX
  clear h0
  refine' (fun e3 => ?main) (fd_pick (w := w) ?hp)
  case hp => k_is
  rotate_left
  unfold lawBody lawEnv at *
  rw [e3] at h ⊢
  dsimp only [bodyOf, List.drop] at h ⊢
  k_steps
  refine Halt.go ?_
  refine acc_new B F KX N T rfl rfl fun p d tn h1 tk1 F1 N1 l1 l2 => ?_
  have l3 : @Ne Nat O p ∧ @Ne Nat D p ∧ @Ne Nat (@HAdd.hAdd Nat Nat Nat instHAdd L 2) p ∧ @Ne Nat (@HAdd.hAdd Nat Nat Nat instHAdd L 1) p ∧ @Ne Nat 107 p ∧ @Ne Nat 227 p ∧ @Ne Nat 70 p ∧ @Ne Nat d p := ⟨l1.ne_p (a := O) (o := oO) (by k_mem), l1.ne_p (a := D) (o := oD) (by k_mem), l1.ne_p (a := L + 2) (o := o2) (by k_mem), l1.ne_p (a := L + 1) (o := op) (by k_mem), l1.ne_p (a := 107) (o := tabObj tb1) (by k_mem), l1.ne_p (a := 227) (o := tabObj tc) (by k_mem), l1.ne_p (a := 70) (o := tabObj #[]) (by k_mem), l1.ne_d (o := oO)⟩
  have l4 : @Ne Nat O d ∧ @Ne Nat D d ∧ @Ne Nat (@HAdd.hAdd Nat Nat Nat instHAdd L 2) d ∧ @Ne Nat (@HAdd.hAdd Nat Nat Nat instHAdd L 1) d ∧ @Ne Nat 107 d ∧ @Ne Nat 227 d ∧ @Ne Nat 70 d := ⟨l2 (O, oO) (by k_mem), l2 (D, oD) (by k_mem), l2 (L + 2, o2) (by k_mem), l2 (L + 1, op) (by k_mem), l2 (107, tabObj tb1) (by k_mem), l2 (227, tabObj tc) (by k_mem), l2 (70, tabObj #[]) (by k_mem)⟩
  clear F N
  k_steps
  refine Halt.go ?_
  rename News _ _ _ _ => N2
  rename Fr _ _ _ _ => F2

  refine push_K B F2 KX N2 T rfl rfl rfl (by k_room) (by decide) ?hpr fun q h3 tk3 F3 N3 l5 => ?_
  case hpr =>
    intro r hr
    rcases List.mem_cons.mp hr with rfl | hr
    · exact l3.2.2.2.2.2.2.2
    · exact (NotIn.all2 (o := oO) l1) r (.tail _ hr)
  simp only [AllLt, and_true] at l5
  clear N2 F2
  simp only [List.nil_append] at N3
  k_steps
  refine Halt.go ?_
  refine str_K (ps := [{ a := q, b := false, t1 := tk1 + 1, t2 := tk1 + 1 + 1 }]) B F3 KX (news_re (b := (p, pileObj d [.ref q] (0 + 1)) :: (d, iniD w tn (.int 0 210)) :: (70, tabObj #[]) :: [(q, pairObj (.str (Str.ofString "/") (tk1 + 1)) (.str (Str.ofString "a") (tk1 + 1 + 1))), (O, oO), (D, oD), (L + 2, o2), (L + 1, op), (107, tabObj tb1), (227, tabObj tc)]) N3 (by k_subL)) T rfl rfl rfl rfl (by k_room) (Nat.le_of_ble_eq_true rfl) (Nat.le_of_ble_eq_true rfl) ?hm G ?htb ?h70 fun h4 gs4 dr4 tk4 tv4 tb4 F4 N4 G4 htb4 => ?_
  case hm =>
    intro r hr
    rw [List.mem_singleton.mp hr]
    exact .head _
  case htb => exact .inl rfl
  case h70 => k_all
  clear N3 F3
  unfold StrBack
  dsimp only [List.map] at N4 ⊢
  k_steps
  refine Halt.go ?_
  rename News _ _ _ _ => N9
  rename Fr _ _ _ _ => F9
  rename_i PL h7 lp h8 oc dc TU h9 lu h10 TO h11 lo h12
  refine' h p d TO TU PL tn { a := q, b := false, t1 := tk1 + 1, t2 := tk1 + 1 + 1 } _ _ tb4 gs4 dr4 oc tv4 _ _ _ rfl ?m1 ?m2 ?m3 ?m4 dc htb4 G4 F9 (news_re N9 ?sub) ?nd
  case m1 => (try dsimp only); rw [if_neg (by decide), if_neg (by decide), if_neg (by decide)]; exact hm
  case m2 => (try dsimp only); rw [if_neg (by decide), if_neg (by decide), if_pos rfl]
  case m3 => (try dsimp only); rw [if_neg (by decide), if_pos rfl]
  case m4 => (try dsimp only); rw [if_pos rfl]
  case sub => k_subL
  case nd =>
    simp only [List.nodup_cons, List.mem_cons, List.not_mem_nil, or_false, not_or, not_false_eq_true, List.nodup_nil, and_true]
    refine ⟨?_, ?_, ?_, ?_, ?_, ?_, ?_, ?_, ?_, ?_, ?_, ?_⟩ <;> (repeat' refine And.intro ?_ ?_) <;> k_ne
end
end Mine
end

section
open PySem PySem.W PyProof.Rows
namespace Mine
local macro_rules | `(tactic| walk_at "no goal") => `(tactic| skip)
theorem freshFG : True ∧ True := by
  k_with_none
  w_top off
  first | (walk1; done) | exact ⟨trivial, trivial⟩
end Mine
end

/-! part FG -/
section
open PySem PySem.W PySem.W.X PyProof.Rows PySem.Calls
set_option maxRecDepth 100000
set_option maxHeartbeats 4000000
namespace Mine
/-- the end of a turn in a loop that may make generators -/
def LoopG (h₀ : Heap) (L : Addr) (s : Shared) (own : List (Addr × Obj)) (I : Addr) (J : (Str → Option Value) → List (Addr × Obj) → Array GenState → Prop) (f : Flow) (s₃ : Shared) : Prop :=
  match f with
  | .ret _ => False
  | .brk => False
  | _ => ∃ h' gs dr tk m₂ news₂, s₃ = { s with heap := h', gens := gs, drawn := dr, toks := tk } ∧ Fr h₀ L h' m₂ ∧ News h₀ L h' (own ++ news₂) ∧ (∀ p ∈ news₂, p.1 ≠ I) ∧ J m₂ news₂ gs
section
variable {prog : Program} {w : World} {A : Around} {E : Value → Shared → Prop} {s : Shared} {env : Env} {h₀ : Heap} {target : Expr} {body : List Stmt} {Q : Flow → Shared → Prop}
theorem for_lst {O : Addr} {vs : List Value} {nO : Nat} {iter : Expr} {pos : Pos} {m : Str → Option Value} {news : List (Addr × Obj)} (hh : A.handled = none) (F : Fr h₀ env.locals s.heap m) (N : News h₀ env.locals s.heap ((O, listOf vs.toArray nO) :: news))
    (hev : ∀ R : Value → Shared → Prop, R (.ref O) s → wpAny (model prog w) A (eval iter env) R E s)
    (J : Nat → (Str → Option Value) → List (Addr × Obj) → Array GenState → Prop) (h0 : J 0 m news s.gens)
    (step : ∀ i v m₁ news₁ h₁ gs dr tk₁ I o, vs[i]? = some v → J i m₁ news₁ gs → (∀ p ∈ news₁, p.1 ≠ I) → O ≠ I → o.cls = .type "list_iterator" → Fr h₀ env.locals h₁ m₁ → News h₀ env.locals h₁ ((I, o) :: (O, listOf vs.toArray nO) :: news₁) →
      wpAny (model prog w) A (assign target env v) (fun _ s₂ => wpAny (model prog w) A (execs body env)
        (LoopG h₀ env.locals s [(I, o), (O, listOf vs.toArray nO)] I (J (i + 1))) E s₂) E { s with heap := h₁, gens := gs, drawn := dr, toks := tk₁ })
    (done : ∀ h' gs dr tk m' news', Fr h₀ env.locals h' m' → News h₀ env.locals h' ((O, listOf vs.toArray nO) :: news') → J vs.length m' news' gs → Q .next { s with heap := h', gens := gs, drawn := dr, toks := tk })
    (hs : ∀ x, foldedSetIterable iter env x = pure x := by intro _; rfl)
    (hE : PassesOwn (model prog w) A env E := by passes_own) :
    wpAny (model prog w) A (exec (.For target iter body [] pos) env) Q E s := by
  have hax := N _ (.head _)
  have hl : s.heap.IsList O vs.toArray := ⟨_, hax.1, rfl, nO, rfl⟩
  have hlt : O < s.heap.objs.size := Heap.lt_size hax.1
  have hne : O ≠ s.heap.objs.size := Nat.ne_of_lt hlt
  refine wpAny_For (hev _ (wpAny_pyIter_list hl ?_)) hs
  have W := Walks.list (prog := prog) (w := w) (A := A) hh s.heap.objs.size O hne vs.toArray
  have hI0 : h₀.get? s.heap.objs.size = none := next_is_new F
  have hIL : env.locals ≠ s.heap.objs.size := Nat.ne_of_lt F.ns.lt
  have hnI : ∀ p ∈ (O, listOf vs.toArray nO) :: news, p.1 ≠ s.heap.objs.size := fun p hp => Nat.ne_of_lt (Heap.lt_size (N p hp).1)
  have st0 : (fun (i : Nat) (h : Heap) => (∃ it, h.get? s.heap.objs.size = some it ∧ it.cls = .type "list_iterator" ∧ it.data = .fields #[.ref O, .int (i : Int) 0]) ∧ h.IsList O vs.toArray) 0 (s.heap.push { cls := .type "list_iterator", data := .fields #[.ref O, .int 0 0] }) := ⟨⟨_, Heap.get?_push_size _ rfl, rfl, rfl⟩, hl.at fun o e => Heap.get?_push_of_some _ e⟩
  have F0 := F.push { cls := .type "list_iterator", data := .fields #[.ref O, .int 0 0] }
  have N0 : News h₀ env.locals (s.heap.push { cls := .type "list_iterator", data := .fields #[.ref O, .int 0 0] }) ((O, listOf vs.toArray nO) :: news) := fun p hp => ⟨Heap.get?_push_of_some _ (N p hp).1, (N p hp).2⟩
  generalize s.heap.objs.size = I at *
  generalize s.heap.push { cls := .type "list_iterator", data := .fields #[.ref O, .int 0 0] } = hp0 at *
  refine codeAny_forLoop_any
    (fun k s' => ∃ h' gs dr tk m' news', ∃ i : Nat, s' = { s with heap := h', gens := gs, drawn := dr, toks := tk } ∧ ((∃ it, h'.get? I = some it ∧ it.cls = .type "list_iterator" ∧ it.data = .fields #[.ref O, .int (i : Int) 0]) ∧ h'.IsList O vs.toArray) ∧ Fr h₀ env.locals h' m' ∧ News h₀ env.locals h' ((O, listOf vs.toArray nO) :: news') ∧ (∀ p ∈ news', p.1 ≠ I) ∧ J i m' news' gs ∧ i ≤ vs.length ∧ k = vs.length + 1 - i) ?_ (vs.length + 1)
    ⟨hp0, s.gens, s.drawn, s.toks, m, news, 0, rfl, st0, F0, N0, fun p hp => hnI p (.tail _ hp), h0, Nat.zero_le _, rfl⟩
  intro k s' hx9
  refine Classical.byContradiction fun hn9 => ?_
  obtain ⟨h', gs, dr, tk, m', news', i, rfl, hst', F', N', hnw', hJ, hi, rfl⟩ := hx9
  refine hn9 ?_
  clear hn9
  have next : ∀ h₁ : Heap, (∀ b o, b ∉ [I] → h'.get? b = some o → h₁.get? b = some o) → Fr h₀ env.locals h₁ m' ∧ News h₀ env.locals h₁ ((O, listOf vs.toArray nO) :: news') := fun h₁ hk₁ =>
    ⟨⟨F'.ns.at' fun o e => hk₁ _ o (by simpa using hIL) e, fun b o e => hk₁ b o (fun q => by rw [List.mem_singleton.mp q, hI0] at e; cases e) (F'.keep b o e), F'.above⟩, fun p hp => ⟨hk₁ _ _ (by
      rcases List.mem_cons.mp hp with rfl | hp
      · simpa using hne
      · simpa using hnw' p hp) (N' p hp).1, (N' p hp).2⟩⟩
  by_cases hlt2 : i < vs.length
  · refine W.item i _ _ _ (by simpa using hlt2) hst' fun v h₁ tk₁ hP hst₁ hk₁ => ?_
    refine letGo_listiter hst₁.1 ?_
    obtain ⟨F₂, N₂⟩ := next h₁ hk₁
    refine Classical.byContradiction fun hn9 => ?_
    obtain ⟨⟨o, ho, hoc, hod⟩, hl₁⟩ := id hst₁
    refine hn9 ?_
    clear hn9
    have N₃ : News h₀ env.locals h₁ ((I, o) :: (O, listOf vs.toArray nO) :: news') := fun p hp => by
      rcases List.mem_cons.mp hp with rfl | hp
      · exact ⟨ho, hIL.symm, hI0⟩
      · exact N₂ p hp
    refine wpAny_mono (step i v m' news' h₁ gs dr tk₁ I o (by simpa using hP) hJ hnw' hne hoc F₂ N₃) (fun _ s₂ x => wpAny_mono (wpAny_passesOwn hE x) (fun f s₃ h₃ => ?_) fun _ _ e => e) hE
    have fin : (∃ h' gs dr tk m₂ news₂, s₃ = { s with heap := h', gens := gs, drawn := dr, toks := tk } ∧ Fr h₀ env.locals h' m₂ ∧ News h₀ env.locals h' ([(I, o), (O, listOf vs.toArray nO)] ++ news₂) ∧ (∀ p ∈ news₂, p.1 ≠ I) ∧ J (i + 1) m₂ news₂ gs) →
        ∃ m, m < vs.length + 1 - i ∧ ∃ h' gs dr tk m' news', ∃ i : Nat, s₃ = { s with heap := h', gens := gs, drawn := dr, toks := tk } ∧ ((∃ it, h'.get? I = some it ∧ it.cls = .type "list_iterator" ∧ it.data = .fields #[.ref O, .int (i : Int) 0]) ∧ h'.IsList O vs.toArray) ∧ Fr h₀ env.locals h' m' ∧ News h₀ env.locals h' ((O, listOf vs.toArray nO) :: news') ∧ (∀ p ∈ news', p.1 ≠ I) ∧ J i m' news' gs ∧ i ≤ vs.length ∧ m = vs.length + 1 - i := by
      intro hx9
      refine Classical.byContradiction fun hn9 => ?_
      obtain ⟨h2, gs2, dr2, tk2, m2, n2, rfl, F2, N2, hn2, hJ2⟩ := hx9
      refine hn9 ?_
      clear hn9
      refine ⟨vs.length + 1 - (i + 1), by omega, h2, gs2, dr2, tk2, m2, n2, i + 1, rfl, ⟨⟨o, (N2 _ (.head _)).1, hoc, hod⟩, ⟨_, (N2 (O, _) (.tail _ (.head _))).1, rfl, nO, rfl⟩⟩, F2, fun p hp => N2 p (.tail _ hp), hn2, hJ2, by omega, rfl⟩
    cases f with
    | ret v => exact h₃.elim
    | brk => exact h₃.elim
    | cont => exact fin h₃
    | next => exact fin h₃
  · have hin : i = vs.length := by omega
    subst hin
    refine W.done _ _ _ (by rw [List.size_toArray]; exact hst') fun h₁ tk₁ hk₁ => wpAny_execs_nil ?_
    obtain ⟨F₁, N₁⟩ := next h₁ hk₁
    exact done h₁ gs dr tk₁ m' news' F₁ N₁ hJ
end
end Mine
end

section
open PySem PySem.W PyProof.Rows
namespace Mine
local macro_rules | `(tactic| walk_at "no goal") => `(tactic| skip)
theorem freshFR : True ∧ True := by
  k_with_none
  w_top off
  first | (walk1; done) | exact ⟨trivial, trivial⟩
end Mine
end

/-! part FR -/
section
open PySem PySem.W PySem.W.X PyProof.Rows PySem.Calls
set_option maxRecDepth 100000
set_option maxHeartbeats 4000000
namespace Mine
def LoopR (h₀ : Heap) (L : Addr) (s : Shared) (I : Addr) (o : Obj) (J : (Str → Option Value) → List (Addr × Obj) → Prop) (f : Flow) (s₃ : Shared) : Prop :=
  f = .next ∧ ∃ h' tk m₂ news₂, s₃ = { s with heap := h', toks := tk } ∧ Fr h₀ L h' m₂ ∧ News h₀ L h' ((I, o) :: news₂) ∧ (∀ p ∈ news₂, p.1 ≠ I) ∧ J m₂ news₂
section
variable {prog : Program} {w : World} {A : Around} {E : Value → Shared → Prop} {s : Shared} {env : Env} {h₀ : Heap} {body : List Stmt} {Q : Flow → Shared → Prop}
/-- a loop over a range that its head makes -/
theorem for_rng {n : Int} {iter : Expr} {x : Str} {px pos : Pos} (hh : A.handled = none) (hn : n ≤ 1000) (hn0 : -1000 ≤ n)
    (J : Nat → (Str → Option Value) → List (Addr × Obj) → Prop)
    (hev : ∀ R : Value → Shared → Prop, (∀ r h₁ tk₁ m₁ n₁ t u v, IsRange h₁ r 0 n 1 t u v → Fr h₀ env.locals h₁ m₁ → News h₀ env.locals h₁ n₁ → J 0 m₁ n₁ → R (.ref r) { s with heap := h₁, toks := tk₁ }) → wpAny (model prog w) A (eval iter env) R E s)
    (step : ∀ (i : Nat) t m₁ news₁ h₁ tk₁ I o, (i : Int) < n → J i m₁ news₁ → (∀ p ∈ news₁, p.1 ≠ I) → o.cls = .type "range_iterator" → Fr h₀ env.locals h₁ m₁ → News h₀ env.locals h₁ ((I, o) :: news₁) →
      wpAny (model prog w) A (assign (.Name x px) env (.int (i : Int) t)) (fun _ s₂ => wpAny (model prog w) A (execs body env)
        (LoopR h₀ env.locals s I o (J (i + 1))) E s₂) E { s with heap := h₁, toks := tk₁ })
    (done : ∀ h' tk m' news', Fr h₀ env.locals h' m' → News h₀ env.locals h' news' → J n.toNat m' news' → Q .next { s with heap := h', toks := tk })
    (hs : ∀ x, foldedSetIterable iter env x = pure x := by intro _; rfl)
    (hE : PassesOwn (model prog w) A env E := by passes_own) :
    wpAny (model prog w) A (exec (.For (.Name x px) iter body [] pos) env) Q E s := by
  have hrs : Builtin.Range.rangeSize 0 n 1 = (n.toNat : Int) := by
    simp [Builtin.Range.rangeSize]
    split <;> grind
  have hsmall : Builtin.Range.small 0 n 1 = true := small_one (a := 0) (b := n) (by decide) (by decide) (by grind) (by grind)
  refine wpAny_For (hev _ fun r h₁ tk₁ m₁ n₁ t u v hr F N h0 => wpAny_pyIter_range hr hsmall ?_) hs
  have W := Walks.range (prog := prog) (w := w) (A := A) hh h₁.objs.size 0 1 n.toNat
  have hI0 : h₀.get? h₁.objs.size = none := Heap.get?_none_of_le (Nat.le_trans F.above (Nat.le_of_lt F.ns.lt))
  have hIL : env.locals ≠ h₁.objs.size := Nat.ne_of_lt F.ns.lt
  have hnI : ∀ p ∈ n₁, p.1 ≠ h₁.objs.size := fun p hp => Nat.ne_of_lt (Heap.lt_size (N p hp).1)
  rw [hrs]
  have st0 : IsRangeIter (h₁.push { cls := .type "range_iterator", data := .fields #[rawInt 0, rawInt (n.toNat : Int), rawInt 1] }) h₁.objs.size (0 + ((0 : Nat) : Int) * 1) ((n.toNat : Int) - ((0 : Nat) : Int)) 1 := by
    simpa using Heap.get?_push_size _ rfl
  have F0 := F.push { cls := .type "range_iterator", data := .fields #[rawInt 0, rawInt (n.toNat : Int), rawInt 1] }
  have N0 : News h₀ env.locals (h₁.push { cls := .type "range_iterator", data := .fields #[rawInt 0, rawInt (n.toNat : Int), rawInt 1] }) n₁ := fun p hp => ⟨Heap.get?_push_of_some _ (N p hp).1, (N p hp).2⟩
  dsimp only
  generalize h₁.objs.size = I at *
  generalize h₁.push { cls := .type "range_iterator", data := .fields #[rawInt 0, rawInt (n.toNat : Int), rawInt 1] } = hp0 at *
  refine codeAny_forLoop_any
    (fun k s' => ∃ h' tk m' news', ∃ i : Nat, s' = { s with heap := h', toks := tk } ∧ IsRangeIter h' I (0 + (i : Int) * 1) ((n.toNat : Int) - (i : Int)) 1 ∧ Fr h₀ env.locals h' m' ∧ News h₀ env.locals h' news' ∧ (∀ p ∈ news', p.1 ≠ I) ∧ J i m' news' ∧ i ≤ n.toNat ∧ k = n.toNat + 1 - i) ?_ (n.toNat + 1)
    ⟨hp0, tk₁, m₁, n₁, 0, rfl, st0, F0, N0, hnI, h0, Nat.zero_le _, rfl⟩
  intro k s' hx9
  refine Classical.byContradiction fun hn9 => ?_
  obtain ⟨h', tk, m', news', i, rfl, hst', F', N', hnw', hJ, hi, rfl⟩ := hx9
  refine hn9 ?_
  clear hn9
  have next : ∀ h₁ : Heap, (∀ b o, b ∉ [I] → h'.get? b = some o → h₁.get? b = some o) → Fr h₀ env.locals h₁ m' ∧ News h₀ env.locals h₁ news' := fun h₁ hk₁ =>
    ⟨⟨F'.ns.at' fun o e => hk₁ _ o (by simpa using hIL) e, fun b o e => hk₁ b o (fun q => by rw [List.mem_singleton.mp q, hI0] at e; cases e) (F'.keep b o e), F'.above⟩, fun p hp => ⟨hk₁ _ _ (by simpa using hnw' p hp) (N' p hp).1, (N' p hp).2⟩⟩
  by_cases hlt2 : i < n.toNat
  · refine W.item i _ _ _ hlt2 hst' fun v h₁ tk₁ hP hst₁ hk₁ => ?_
    obtain ⟨t', rfl⟩ := hP
    refine wpAny_pure ?_
    obtain ⟨F₂, N₂⟩ := next h₁ hk₁
    have N₃ : News h₀ env.locals h₁ ((I, _) :: news') := fun p hp => by
      rcases List.mem_cons.mp hp with rfl | hp
      · exact ⟨hst₁, hIL.symm, hI0⟩
      · exact N₂ p hp
    rw [show (0 : Int) + (i : Int) * 1 = (i : Int) by grind]
    refine wpAny_mono (step i t' m' news' h₁ tk₁ I _ (by grind) hJ hnw' rfl F₂ N₃) (fun _ s₂ x => wpAny_mono (wpAny_passesOwn hE x) (fun f s₃ h₃ => ?_) fun _ _ e => e) hE
    refine Classical.byContradiction fun hn9 => ?_
    obtain ⟨rfl, h2, tk2, m2, n2, rfl, F2, N2, hn2, hJ2⟩ := h₃
    refine hn9 ?_
    clear hn9
    exact ⟨n.toNat + 1 - (i + 1), by grind, h2, tk2, m2, n2, i + 1, rfl, (N2 _ (.head _)).1, F2, fun p hp => N2 p (.tail _ hp), hn2, hJ2, by grind, rfl⟩
  · have hin : i = n.toNat := by grind
    subst hin
    refine W.done _ _ _ hst' fun h₁ tk₁ hk₁ => wpAny_execs_nil ?_
    obtain ⟨F₁, N₁⟩ := next h₁ hk₁
    exact done h₁ tk₁ m' news' F₁ N₁ hJ
end
end Mine
end

section
open PySem PySem.W PyProof.Rows
namespace Mine
local macro_rules | `(tactic| walk_at "no goal") => `(tactic| skip)
local macro_rules | `(tactic| walk_at "no goal") => `(tactic| skip)
theorem freshW1 : True ∧ True := by
  k_with_none
  w_top off
  first | (walk1; done) | exact ⟨trivial, trivial⟩
end Mine
end

/-! part W1 -/
section
open PySem PySem.W PySem.W.X PyProof.Rows PySem.Calls
set_option maxRecDepth 100000
set_option maxHeartbeats 4000000
namespace Mine
local macro_rules | `(tactic| walk_at $s:str) => `(tactic| k_extra $s)
def forBodyOf (l : List Stmt) : List Stmt := match l.getD 7 (.Pass default) with | .For _ _ body _ _ => body | _ => []
noncomputable def forBody (w : World) : List Stmt := forBodyOf (lawBody w)
/-- what the popping leaves -/
def Cut (ps ps' : List Piece) (b : Bool) : Prop := (b = false ∧ ∃ a tr, ps = ps' ++ a :: tr ∧ a.b = false ∧ ∀ q ∈ tr, q.b = true) ∨ (b = true ∧ ∃ tr, ps = ps' ++ tr ∧ ∀ q ∈ tr, q.b = true)
section
local macro_rules | `(tactic| k_room) => `(tactic| ((try simp only [depth_under_make, depth_under_kw, depth_in1, depth_deeper, depth_caller]); first | decide | (have : recursionLimit = 1000 := by decide
                                                                                                                                                                 omega)))
local macro_rules | `(tactic| k_inst) => `(tactic| exact pile_inst (by k_asm) (by k_mem) (by k_mem))
local macro_rules | `(tactic| k_mem) => `(tactic| first | exact List.Mem.tail _ (List.Mem.tail _ (by assumption)))
local macro_rules | `(tactic| k_mem) => `(tactic| first | exact List.Mem.head _ | exact List.Mem.tail _ (List.Mem.head _) | exact List.Mem.tail _ (List.Mem.tail _ (by assumption)))
theorem m_ne' {x y : Str} {v : Option Value} {m : Str → Option Value} {r : Option Value} (h : (x == y) = false) (q : m x = r) : (fun z => if z = y then v else m z) x = r := by
  have : x ≠ y := fun e => by subst e; simp at h
  dsimp only
  rw [if_neg this]; exact q
variable {w : World} {base h₀ : Heap} {E : Value → Shared → Prop} {s : Shared} {L p d fa : Addr} {m mg mb : Str → Option Value} {pp : Program} {loose : List Str} {mean : ExcName → Option Value} {Q : Flow → Shared → Prop} {rest : List (Addr × Obj)}
theorem while_K {ps : List Piece} {tn t : Tok} {v : Value} {k : Nat}
    (B : Below callerA base [] h₀) (F : Fr h₀ L s.heap m) (KX : (hd.heap_1 w.params).In h₀) (N : News h₀ L s.heap ((p, pileObj d (ps.map fun q => .ref q.a) k) :: (d, iniD w tn v) :: rest)) (T : Top pp loose mean mg mb h₀)
    (hn : m (Str.ofString "name") = some (.str (nmP true) t)) (hp : m (Str.ofString "pile") = some (.ref p)) (hmem : ∀ q ∈ ps, (q.a, q.obj) ∈ rest) (hpr : ∀ r ∈ rest, r.1 ≠ p) (hdp : d ≠ p) (hlen : ps.length ≤ 800)
    (h : ∀ ps' b' t' k' m' h' tk, Cut ps ps' b' → (b' = true → ps' = []) → (∀ x, (x == Str.ofString "name") = false → m' x = m x) → m' (Str.ofString "name") = some (.str (nmP b') t') → Fr h₀ L h' m' → News h₀ L h' ((p, pileObj d (ps'.map fun q => .ref q.a) k') :: (d, iniD w tn v) :: rest) → Q .next { s with heap := h', toks := tk })
    (hE : PassesOwn (model PySem.Challenge.pw_qw0044_01 w) (callerA.deeper (lawEnv w L fa)) (lawEnv w L fa) E) :
    wpAny (model PySem.Challenge.pw_qw0044_01 w) (callerA.deeper (lawEnv w L fa)) (exec ((forBody w).getD 1 (.Pass default)) (lawEnv w L fa)) Q E s := by
  k_with_none
  k_with "getMethod ref" => ((k_here; (with_reducible show wpAny _ _ (getMethod (Value.ref _) (PySem.Str.ofString "pop") _) _ _ _); k_dflt (refine' pile_m_pop ?F ?X ?N ?h1 ?h2 ?_; (case F => k_asm); (case X => k_asm); (case N => k_asm); (case h1 => k_mem); (case h2 => k_mem)); (try dsimp only)))
  k_with "getMethod ref" => ((k_here; (with_reducible show wpAny _ _ (getMethod (Value.ref _) (PySem.Str.ofString "part_count") _) _ _ _); k_dflt (refine' pile_m_count ?F ?X ?N ?h1 ?h2 ?_; (case F => k_asm); (case X => k_asm); (case N => k_asm); (case h1 => k_mem); (case h2 => k_mem)); (try dsimp only)))
  k_with "call ref" => ((k_here; (with_reducible show wpAny _ _ (PySem.call (Value.ref 98) _) _ _ _); k_dflt (refine' count_K ?B ?F ?X ?N ?T ?hA ?hf ?hke ?hr ?_; (case B => k_asm); (case F => k_asm); (case X => k_asm); (case N => k_asm); (case T => k_asm); (case hA => exact rfl); (case hf => exact rfl); (case hke => exact rfl); (case hr => k_room)); intro h'9k ti'9k tk'9k F'9k N'9k; (try dsimp only)))
  k_with "call ref" => ((k_here; (with_reducible show wpAny _ _ (PySem.call (Value.ref 61) _) _ _ _); refine Halt.of ?_))
  k_with "eval Name" => ((k_here; k_dflt (refine' nameX_L ?F ?v ?_ ?a ?b; (case F => k_asm); (case a => rfl); (case b => rfl); (case v => first | assumption | exact m_ne' (by decide) (by assumption)); k_whole)))
  revert KX
  have h0 : PySem.Challenge.rw_qw0044_01.Holds ∨ True := .inr trivial
  revert h0
  k_fill
  intro h0 KX
  clear h0
  refine' (fun e3 => ?main) (fd_pick (w := w) ?hp)
  case hp => k_is
  rotate_left
  unfold forBody lawBody lawEnv at *
  rw [e3] at hE ⊢
  dsimp only [bodyOf, forBodyOf, List.getD_cons_zero, List.getD_cons_succ] at hE ⊢
  refine While_inv (fun n m₁ news₁ => ∃ ps₁ b₁ t₁ k₁, news₁ = (p, pileObj d (ps₁.map fun q => .ref q.a) k₁) :: (d, iniD w tn v) :: rest ∧ Cut ps ps₁ b₁ ∧ (∀ x, (x == Str.ofString "name") = false → m₁ x = m x) ∧ m₁ (Str.ofString "name") = some (.str (nmP b₁) t₁) ∧ n = ps₁.length) F N ⟨ps, true, t, k, rfl, .inr ⟨rfl, [], by simp, by simp⟩, fun _ _ => rfl, hn, rfl⟩ ?_ hE
  intro n m₁ news₁ h₁ tk₁ F₁ N₁ hx9
  refine Classical.byContradiction fun hn9 => ?_
  obtain ⟨ps₁, b₁, t₁, k₁, rfl, hcut, hm₁, hn₁, rfl⟩ := hx9
  refine hn9 ?_
  clear hn9
  have hp₁ : m₁ (Str.ofString "pile") = some (.ref p) := by rw [hm₁ _ (by decide)]; exact hp
  cases b₁ with
  | false =>
    rw [show nmP false = Str.ofString "a" from rfl] at hn₁
    k_steps
    exact h ps₁ false t₁ k₁ m₁ h₁ _ hcut (fun e => by cases e) hm₁ hn₁ F₁ N₁
  | true =>
    rw [show nmP true = Str.ofString "b" from rfl] at hn₁
    k_steps
    · rename_i hgt
      rename News _ _ _ _ => N2
      rename Fr _ _ _ _ => F2
      rcases List.eq_nil_or_concat ps₁ with e | ⟨ps₂, q, e⟩
      · subst e
        exact absurd hgt (by simp)
      · rw [List.concat_eq_append] at e
        subst e
        refine Halt.go ?_
        have hq : (q.a, q.obj) ∈ rest := hmem q (by
          rcases hcut with ⟨_, a, tr, e, _⟩ | ⟨_, tr, e, _⟩
          · rw [e]; simp
          · rw [e]; simp)
        have hl2 : ps₂.length + 1 ≤ ps.length := by
          rcases hcut with ⟨_, a, tr, e, _⟩ | ⟨_, tr, e, _⟩
          · rw [e]; simp
          · rw [e]; simp
        rw [List.map_append] at N2
        refine pop_K (its := ps₂.map fun q => .ref q.a) (x := .ref q.a) B F2 KX N2 T rfl rfl rfl (by k_room) (by rw [List.length_map]; omega) ?hpr fun h3 tk3 F3 N3 => ?_
        case hpr =>
          intro r hr
          rcases List.mem_cons.mp hr with rfl | hr
          · exact hdp
          · exact hpr r hr
        clear N2 F2
        k_steps
        rename News _ _ _ _ => N4
        rename Fr _ _ _ _ => F4
        refine WhileStep.intro F4 N4 (n' := ps₂.length) (by rw [List.length_append]; exact Nat.lt_succ_self _) ⟨ps₂, q.b, _, _, rfl, ?_, fun x hx => ?_, if_pos rfl, rfl⟩
        · rcases hcut with ⟨e, _⟩ | ⟨_, tr, e, htr⟩
          · cases e
          · cases hqb : q.b with
            | false => exact .inl ⟨rfl, q, tr, by rw [e]; simp, hqb, htr⟩
            | true => exact .inr ⟨rfl, q :: tr, by rw [e]; simp, fun r hr => by
                rcases List.mem_cons.mp hr with rfl | hr
                · exact hqb
                · exact htr r hr⟩
        · rw [← hm₁ x hx]
          exact if_neg (fun e => by rw [e] at hx; simp at hx)
    · rename_i hgt
      rename News _ _ _ _ => N2
      rename Fr _ _ _ _ => F2
      have e : ps₁ = [] := by
        cases ps₁ with
        | nil => rfl
        | cons a r => exact absurd (by simp) hgt
      subst e
      exact h [] true t₁ k₁ m₁ _ _ hcut (fun _ => rfl) hm₁ hn₁ F2 N2
end
end Mine
end

section
open PySem PySem.W PyProof.Rows
namespace Mine
local macro_rules | `(tactic| walk_at "no goal") => `(tactic| skip)
local macro_rules | `(tactic| walk_at "no goal") => `(tactic| skip)
theorem freshW2 : True ∧ True := by
  k_with_none
  w_top off
  first | (walk1; done) | exact ⟨trivial, trivial⟩
end Mine
end

/-! part W2 -/
section
open PySem PySem.W PySem.W.X PyProof.Rows PySem.Calls
set_option maxRecDepth 100000
set_option maxHeartbeats 4000000
namespace Mine
local macro_rules | `(tactic| omega) => `(tactic| lia)
local macro_rules | `(tactic| walk_at $s:str) => `(tactic| k_extra $s)
def elseOf (st : Stmt) : List Stmt := match st with | .If _ _ e _ => e | _ => []
noncomputable def elseBody (w : World) : List Stmt := elseOf ((forBody w).getD 2 (.Pass default))
theorem allLt_mem {d : Nat} : ∀ {l : List (Addr × Obj)}, AllLt d l → ∀ r ∈ l, @LT.lt Nat _ r.1 d
  | [], _, _, hr => nomatch hr
  | _ :: _, h, r, hr => by
    rcases List.mem_cons.mp hr with rfl | hr
    · exact h.1
    · exact allLt_mem h.2 r hr
theorem isList_of {h₀ h : Heap} {L D : Addr} {news : List (Addr × Obj)} {ys : List Value} {n : Nat} (N : News h₀ L h news) (hm : (D, listOf ys.toArray n) ∈ news) : h.IsList D ys.toArray := ⟨_, (N _ hm).1, rfl, n, rfl⟩
section
local macro_rules | `(tactic| k_room) => `(tactic| ((try simp only [depth_under_make, depth_under_kw, depth_in1, depth_deeper, depth_caller]); first | decide | (have : recursionLimit = 1000 := by decide
                                                                                                                                                                 omega)))
local macro_rules | `(tactic| k_inst) => `(tactic| exact pile_inst (by k_asm) (by k_mem) (by k_mem))
local macro_rules | `(tactic| k_mem) => `(tactic| first | assumption | exact List.Mem.head _ | exact List.Mem.tail _ (List.Mem.head _) | exact List.Mem.tail _ (List.Mem.tail _ (by assumption)))
variable {w : World} {base h₀ : Heap} {E : Value → Shared → Prop} {s : Shared} {L p d D fa : Addr} {m mg mb : Str → Option Value} {pp : Program} {loose : List Str} {mean : ExcName → Option Value} {Q : Flow → Shared → Prop} {rest : List (Addr × Obj)}
theorem push_loop {ps : List Piece} {tn t : Tok} {v : Value} {np nD k : Nat} {ds : List Int} {ys : List Value} {o2 : Obj}
    (B : Below callerA base [] h₀) (F : Fr h₀ L s.heap m) (KX : (hd.heap_1 w.params).In h₀) (N : News h₀ L s.heap ((p, pileObj d (ps.map fun q => .ref q.a) np) :: (d, iniD w tn v) :: rest)) (T : Top pp loose mean mg mb h₀)
    (hmk : m (Str.ofString "mark") = some (.int (k : Int) t)) (hp : m (Str.ofString "pile") = some (.ref p)) (hpr : ∀ r ∈ rest, r.1 ≠ p) (hdp : d ≠ p) (hlen : ps.length ≤ 100)
    (h2 : (L + 1 + 1, o2) ∈ rest) (hd2 : o2.data = .cell (some (.ref D))) (hD : (D, listOf ys.toArray nD) ∈ rest) (hys : IntsAre ys ds) (hk : k < ds.length) (hdl : ds.length ≤ 20) (hd14 : ∀ d ∈ ds, 1 ≤ d ∧ d ≤ 4)
    (h : ∀ ps₂ np' m' h' tk, (ps₂.length : Int) = max 0 (ds.getD k 0 + 1 - ps.length) → (∀ q ∈ ps₂, q.b = false) → (∀ x, (x == Str.ofString "lack") = false → m' x = m x) → Fr h₀ L h' m' →
      News h₀ L h' ((p, pileObj d ((ps ++ ps₂).map fun q => .ref q.a) np') :: (d, iniD w tn v) :: ((ps₂.map fun q => (q.a, q.obj)) ++ rest)) → (∀ q ∈ ps₂, p < q.a ∧ d < q.a ∧ ∀ r ∈ rest, r.1 < q.a) → Q .next { s with heap := h', toks := tk })
    (hE : PassesOwn (model PySem.Challenge.pw_qw0044_01 w) (callerA.deeper (lawEnv w L fa)) (lawEnv w L fa) E) :
    wpAny (model PySem.Challenge.pw_qw0044_01 w) (callerA.deeper (lawEnv w L fa)) (exec ((elseBody w).getD 2 (.Pass default)) (lawEnv w L fa)) Q E s := by
  k_with_none
  k_with "subscriptTail Name Name ref int" => (((with_reducible show wpAny _ _ (subscriptTail _ _ (Value.ref _) (Value.int _ _)) _ _ _); (with_unfolding_all refine' item_list_ints ?k1 ?k2 ?k3 ?k4 ?k5 ?_; (case k1 => exact isList_of (by k_asm) (by k_mem)); (case k2 => assumption); (case k3 => omega); (case k4 => omega); (case k5 => omega); k_whole); intro _))
  k_with "getMethod ref" => ((k_here; (with_reducible show wpAny _ _ (getMethod (Value.ref _) (PySem.Str.ofString "push") _) _ _ _); k_dflt (refine' pile_m_push ?F ?X ?N ?h1 ?h2 ?_; (case F => k_asm); (case X => k_asm); (case N => k_asm); (case h1 => k_mem); (case h2 => k_mem)); (try dsimp only)))
  k_with "getMethod ref" => ((k_here; (with_reducible show wpAny _ _ (getMethod (Value.ref _) (PySem.Str.ofString "part_count") _) _ _ _); k_dflt (refine' pile_m_count ?F ?X ?N ?h1 ?h2 ?_; (case F => k_asm); (case X => k_asm); (case N => k_asm); (case h1 => k_mem); (case h2 => k_mem)); (try dsimp only)))
  k_with "call ref" => ((k_here; (with_reducible show wpAny _ _ (PySem.call (Value.ref 98) _) _ _ _); k_dflt (refine' count_K ?B ?F ?X ?N ?T ?hA ?hf ?hke ?hr ?_; (case B => k_asm); (case F => k_asm); (case X => k_asm); (case N => k_asm); (case T => k_asm); (case hA => exact rfl); (case hf => exact rfl); (case hke => exact rfl); (case hr => k_room)); intro h'9k ti'9k tk'9k F'9k N'9k; (try dsimp only)))
  k_with "call ref" => ((k_here; (with_reducible show wpAny _ _ (PySem.call (Value.ref 45) _) _ _ _); refine Halt.of ?_))
  k_with "eval Name" => ((k_here; k_dflt (first | (refine' nameX_L ?F ?v ?_ ?a ?b; (case F => k_asm); (case a => rfl); (case b => rfl); (case v => first | assumption | exact m_ne' (by decide) (by assumption)); k_whole) | (refine' nameX_C ?N ?c ?m ?d ?_ ?a ?b; (case a => rfl); (case b => rfl); (case N => k_asm); (case c => rfl); (case m => k_mem); (case d => k_asm); k_whole) | (refine' nameX_B ?F ?X ?T ?e ?v ?n ?_ ?a ?b; (case F => k_asm); (case X => k_asm); (case T => k_asm); (case a => rfl); (case b => rfl); (case e => k_is); (case v => boot_fast); (case n => decide); k_whole))))
  revert KX
  have h0 : PySem.Challenge.rw_qw0044_01.Holds ∨ True := .inr trivial
  revert h0
  k_fill
  intro h0 KX
  clear h0
  refine' (fun e3 => ?main) (fd_pick (w := w) ?hp)
  case hp => k_is
  rotate_left
  unfold elseBody forBody lawBody lawEnv at *
  rw [e3] at hE ⊢
  dsimp only [bodyOf, forBodyOf, List.getD_cons_zero, List.getD_cons_succ] at hE ⊢
  dsimp only [elseOf, List.getD_cons_zero, List.getD_cons_succ]
  have hdk : 1 ≤ ds.getD k 0 ∧ ds.getD k 0 ≤ 4 := by
    rw [List.getD_eq_getElem?_getD, List.getElem?_eq_getElem hk]
    exact hd14 _ (List.getElem_mem hk)
  have b1 : (0 : Int) ≤ (k : Int) ∧ (k : Int) < ds.length := by omega
  have hsz : (((ps.map fun q => Value.ref q.a).toArray.size : Nat) : Int) = ps.length := by simp
  refine for_rng (h₀ := h₀) (n := ds.getD k 0 + 1 - (((ps.map fun q => Value.ref q.a).toArray.size : Nat) : Int)) rfl (by omega) (by omega)
    (fun i m₁ n₁ => ∃ ps₂ np', ps₂.length = i ∧ n₁ = (p, pileObj d ((ps ++ ps₂).map fun q => .ref q.a) np') :: (d, iniD w tn v) :: ((ps₂.map fun q => (q.a, q.obj)) ++ rest) ∧ (∀ q ∈ ps₂, q.b = false) ∧ (∀ x, (x == Str.ofString "lack") = false → m₁ x = m x) ∧ (∀ q ∈ ps₂, p < q.a ∧ d < q.a ∧ ∀ r ∈ rest, r.1 < q.a)) ?hev ?step ?done (fun _ => rfl) hE
  case hev =>
    intro R hR
    k_steps
    refine hR _ _ _ _ _ _ _ _ (by assumption) (by assumption) (by assumption) ⟨[], np, rfl, by simp, fun q hq => (nomatch hq), fun _ _ => rfl, fun q hq => (nomatch hq)⟩
  case step =>
    rintro i t' m₁ n₁ h₁ tk₁ I o hi ⟨ps₂, np', e1, rfl, e2, e4, e5⟩ hnI hoc F1 N1
    have hp₁ : m₁ (Str.ofString "pile") = some (.ref p) := by rw [e4 _ (by decide)]; exact hp
    have hl2 : ps₂.length ≤ 10 := by omega
    have N2 : News h₀ L h₁ ((p, pileObj d ((ps ++ ps₂).map fun q => .ref q.a) np') :: (d, iniD w tn v) :: (I, o) :: ((ps₂.map fun q => (q.a, q.obj)) ++ rest)) := fun r hr => N1 r (by
      rcases List.mem_cons.mp hr with rfl | hr
      · exact .tail _ (.head _)
      rcases List.mem_cons.mp hr with rfl | hr
      · exact .tail _ (.tail _ (.head _))
      rcases List.mem_cons.mp hr with rfl | hr
      · exact .head _
      · exact .tail _ (.tail _ (.tail _ hr)))
    clear N1
    k_steps
    refine Halt.go ?_
    rename News _ _ _ _ => N3
    rename Fr _ _ _ _ => F3
    refine push_K B F3 KX N3 T rfl rfl rfl (by k_room) (by rw [List.length_map, List.length_append]; omega) ?hpr fun q h4 tk4 F4 N4 l4 => ?_
    case hpr =>
      intro r hr
      rcases List.mem_cons.mp hr with rfl | hr
      · exact hdp
      rcases List.mem_cons.mp hr with rfl | hr
      · exact (hnI _ (.head _)).symm
      rcases List.mem_append.mp hr with hr | hr
      · obtain ⟨q, hq, rfl⟩ := List.mem_map.mp hr
        exact Nat.ne_of_gt (e5 q hq).1
      · exact hpr r hr
    clear N3 F3
    have l5 := allLt_mem l4
    k_steps
    refine Classical.byContradiction fun hn9 => ?_
    obtain ⟨qq, rfl, hqb, hqo⟩ : ∃ qq : Piece, qq.a = q ∧ qq.b = false ∧ h4.get? q = some qq.obj := ⟨Piece.mk q _ false _, rfl, rfl, (N4 _ (.head _)).1⟩
    refine hn9 ?_
    clear hn9
    refine ⟨rfl, h4, _, _, (p, pileObj d ((ps ++ (ps₂ ++ [qq])).map fun q => .ref q.a) (np' + 1)) :: (d, iniD w tn v) :: (((ps₂ ++ [qq]).map fun q => (q.a, q.obj)) ++ rest), rfl, F4, ?_, ?_, ps₂ ++ [qq], np' + 1, by rw [List.length_append, e1]; rfl, rfl, ?_, fun x hx => ?_, ?_⟩
    · intro r hr
      rcases List.mem_cons.mp hr with rfl | hr
      · exact N4 _ (.tail _ (.tail _ (.tail _ (.head _))))
      rcases List.mem_cons.mp hr with rfl | hr
      · have := N4 (p, _) (.tail _ (.head _))
        rw [← List.append_assoc, List.map_append]
        exact this
      rcases List.mem_cons.mp hr with rfl | hr
      · exact N4 _ (.tail _ (.tail _ (.head _)))
      rw [List.map_append, List.append_assoc] at hr
      rcases List.mem_append.mp hr with hr | hr
      · exact N4 _ (.tail _ (.tail _ (.tail _ (.tail _ (List.mem_append_left _ hr)))))
      · rcases List.mem_cons.mp hr with rfl | hr
        · exact ⟨hqo, (N4 _ (.head _)).2⟩
        · exact N4 _ (.tail _ (.tail _ (.tail _ (.tail _ (List.mem_append_right _ hr)))))
    · intro r hr
      rcases List.mem_cons.mp hr with rfl | hr
      · exact hnI (p, pileObj d ((ps ++ ps₂).map fun q => .ref q.a) np') (.head _)
      rcases List.mem_cons.mp hr with rfl | hr
      · exact hnI _ (.tail _ (.head _))
      rw [List.map_append, List.append_assoc] at hr
      rcases List.mem_append.mp hr with hr | hr
      · exact hnI _ (.tail _ (.tail _ (List.mem_append_left _ hr)))
      · rcases List.mem_cons.mp hr with rfl | hr
        · exact Nat.ne_of_gt (l5 (I, o) (.tail _ (.tail _ (.head _))))
        · exact hnI _ (.tail _ (.tail _ (List.mem_append_right _ hr)))
    · intro r hr
      rcases List.mem_append.mp hr with hr | hr
      · exact e2 r hr
      · rw [List.mem_singleton.mp hr]; exact hqb
    · rw [← e4 x hx]
      exact if_neg (fun e => by rw [e] at hx; simp at hx)
    · intro r hr
      rcases List.mem_append.mp hr with hr | hr
      · exact e5 r hr
      · rw [List.mem_singleton.mp hr]
        exact ⟨l5 (p, _) (.head _), l5 (d, _) (.tail _ (.head _)), fun r hr => l5 r (.tail _ (.tail _ (.tail _ (List.mem_append_right _ hr))))⟩
  case done =>
    intro h' tk m' n' F9 N9 hx9
    refine Classical.byContradiction fun hn9 => ?_
    obtain ⟨ps₂, np', e1, rfl, e2, e4, e5⟩ := hx9
    refine hn9 ?_
    clear hn9
    refine h ps₂ np' m' h' tk ?_ e2 e4 F9 N9 e5
    rw [e1]
    omega
end
end Mine
end

section
open PySem PySem.W PyProof.Rows
namespace Mine
local macro_rules | `(tactic| walk_at "no goal") => `(tactic| skip)
theorem freshPQ : True ∧ True := by
  k_with_none
  w_top off
  first | (walk1; done) | exact ⟨trivial, trivial⟩
end Mine
end

/-! part PQ -/
section
open PySem PySem.W PySem.W.X PyProof.Rows PySem.Calls
namespace Mine
theorem nmP_of (b : Bool) : nmP b = nmOf b := by cases b <;> rfl
theorem partOf_pth (b : Bool) : partOf b = pth [b] := by cases b <;> decide +kernel
theorem str_join_empty : ∀ bs : List Bool, Str.join (Str.ofString "") (bs.map partOf) = pth bs
  | [] => by show Str.ofString "" = pth []; decide +kernel
  | [b] => by show partOf b = pth [b]; exact partOf_pth b
  | b :: c :: r => by
    have ih := str_join_empty (c :: r)
    show partOf b ++ Str.ofString "" ++ Str.join (Str.ofString "") ((c :: r).map partOf) = _
    rw [ih, partOf_pth, empty_sl]
    unfold pth
    rw [sl_app, sl_app, List.append_nil, ← pcs_app]
    rfl
theorem pathOf_pth (bs : List Bool) : pathOf bs = pth bs := by
  rw [← str_join_empty bs]
  exact eq_of_beq (join_plain_closes _ _)
end Mine
end

section
open PySem PySem.W PyProof.Rows
namespace Mine
local macro_rules | `(tactic| walk_at "no goal") => `(tactic| skip)
local macro_rules | `(tactic| walk_at "no goal") => `(tactic| skip)
theorem freshW3 : True ∧ True := by
  k_with_none
  w_top off
  first | (walk1; done) | exact ⟨trivial, trivial⟩
end Mine
end

/-! part W3 -/
section
open PySem PySem.W PySem.W.X PyProof.Rows PySem.Calls
set_option maxRecDepth 100000
set_option maxHeartbeats 4000000
namespace Mine
local macro_rules | `(tactic| walk_at $s:str) => `(tactic| k_extra $s)
local macro_rules | `(tactic| k_types) => `(tactic| first | with_reducible assumption | (apply And.right; first | with_reducible assumption | (apply And.right; first | with_reducible assumption | (apply And.right; first | with_reducible assumption | (apply And.right; first | with_reducible assumption | (apply And.right; first | with_reducible assumption | (apply And.right; first | with_reducible assumption | (apply And.right; first | with_reducible assumption | (apply And.right; first | with_reducible assumption | (apply And.right; first | with_reducible assumption | (apply And.right; first | with_reducible assumption | (apply And.right; first | with_reducible assumption | (apply And.right; first | with_reducible assumption | (apply And.right; first | with_reducible assumption | (apply And.right; with_reducible assumption)))))))))))))))
local macro_rules | `(tactic| k_ne) => `(tactic| (refine neN ?_; (try dsimp only); first | (first | k_types | (apply And.left; k_types)) | (refine Ne.symm ?_; (first | k_types | (apply And.left; k_types))) | (refine Nat.ne_of_lt ?_; (first | k_types | (apply And.left; k_types))) | (refine Nat.ne_of_gt ?_; (first | k_types | (apply And.left; k_types)))))
/-- what a turn notes: a slash where nothing stands -/
def tpth (bs : List Bool) : Str := if bs.isEmpty then Str.ofString "/" else pth bs
section
local macro_rules | `(tactic| k_room) => `(tactic| ((try simp only [depth_under_make, depth_under_kw, depth_in1, depth_deeper, depth_caller]); first | decide | (have : recursionLimit = 1000 := by decide
                                                                                                                                                                 omega)))
local macro_rules | `(tactic| k_inst) => `(tactic| exact pile_inst (by k_asm) (by k_mem) (by k_mem))
local macro_rules | `(tactic| k_mem) => `(tactic| first | assumption | exact List.Mem.head _ | (refine List.Mem.tail _ ?_; k_mem))
variable {w : World} {base h₀ : Heap} {E : Value → Shared → Prop} {s : Shared} {L p d D TO TU PL fa : Addr} {m mg mb : Str → Option Value} {pp : Program} {loose : List Str} {mean : ExcName → Option Value} {Q : Flow → Shared → Prop} {rest : List (Addr × Obj)}
local macro_rules | `(tactic| k_all) => `(tactic| assumption)
local macro_rules | `(tactic| k_all) => `(tactic| first | exact List.forall_mem_nil _ | assumption | (refine' List.forall_mem_cons.mpr ⟨?a, ?b⟩; (case a => k_ne); (case b => k_all)))
theorem turn_K {ps : List Piece} {tn t : Tok} {np nD nTo nTu nPl k : Nat} {ds : List Int} {ys toldV turnV placeV : List Value} {o1 o2 : Obj} {tb : Array Value}
    (B : Below callerA base [] h₀) (F : Fr h₀ L s.heap m) (KX : (hd.heap_1 w.params).In h₀) (N : News h₀ L s.heap ((p, pileObj d (ps.map fun q => .ref q.a) np) :: (d, iniD w tn (.int 0 210)) :: (70, tabObj tb) :: (TO, listOf toldV.toArray nTo) :: (TU, listOf turnV.toArray nTu) :: (PL, listOf placeV.toArray nPl) :: rest)) (T : Top pp loose mean mg mb h₀)
    (hmk : m (Str.ofString "mark") = some (.int (k : Int) t)) (hp : m (Str.ofString "pile") = some (.ref p)) (htu : m (Str.ofString "turns") = some (.ref TU)) (hto : m (Str.ofString "told") = some (.ref TO))
    (nd : (@Ne Nat p d ∧ @Ne Nat p 70 ∧ @Ne Nat p TO ∧ @Ne Nat p TU ∧ @Ne Nat p PL) ∧ (@Ne Nat d 70 ∧ @Ne Nat d TO ∧ @Ne Nat d TU ∧ @Ne Nat d PL) ∧ (@Ne Nat 70 TO ∧ @Ne Nat 70 TU ∧ @Ne Nat 70 PL) ∧ (@Ne Nat TO TU ∧ @Ne Nat TO PL) ∧ @Ne Nat TU PL)
    (rp : ∀ r ∈ rest, r.1 ≠ p) (rd : ∀ r ∈ rest, r.1 ≠ d) (r70 : ∀ r ∈ rest, r.1 ≠ 70) (rTO : ∀ r ∈ rest, r.1 ≠ TO) (rTU : ∀ r ∈ rest, r.1 ≠ TU) (rPL : ∀ r ∈ rest, r.1 ≠ PL) (hlen : ps.length ≤ 90)
    (hmem : ∀ q ∈ ps, (q.a, q.obj) ∈ rest) (h1 : (L + 1, o1) ∈ rest) (hd1 : o1.data = .cell (some (.ref PL)))
    (h2 : (L + 1 + 1, o2) ∈ rest) (hd2 : o2.data = .cell (some (.ref D))) (hD : (D, listOf ys.toArray nD) ∈ rest) (hys : IntsAre ys ds) (hk : k < ds.length) (hdl : ds.length ≤ 20) (hd14 : ∀ d ∈ ds, 1 ≤ d ∧ d ≤ 4)
    (htl : toldV.length ≤ 100 ∧ turnV.length ≤ 100 ∧ placeV.length ≤ 100) (G : AllBare s.gens) (htb : TabOk strPos tb)
    (hN : ∀ k' m' h' tk nTo', Cut ps [] true → (∀ x, (x == Str.ofString "name") = false → m' x = m x) → Fr h₀ L h' m' → News h₀ L h' ((p, pileObj d (([] : List Piece).map fun q => .ref q.a) k') :: (d, iniD w tn (.int 0 210)) :: (70, tabObj tb) :: (TO, listOf (toldV ++ [Value.none]).toArray nTo') :: (TU, listOf turnV.toArray nTu) :: (PL, listOf placeV.toArray nPl) :: rest) → Q .next { s with heap := h', toks := tk })
    (hS : ∀ (ps' : List Piece) (qq : Piece) (ps₂ : List Piece) t1 t2 t3 tb' k' m' h' gs dr tk nTo' nTu' nPl', Cut ps ps' false → qq.b = true → (ps₂.length : Int) = max 0 (ds.getD k 0 + 1 - ((ps'.length + 1 : Nat) : Int)) → (∀ q ∈ ps₂, q.b = false) → (∀ x, (x == Str.ofString "name") = false → (x == Str.ofString "lack") = false → m' x = m x) → Fr h₀ L h' m' →
      News h₀ L h' ((p, pileObj d (((ps' ++ [qq]) ++ ps₂).map fun q => .ref q.a) k') :: (d, iniD w tn (.int 0 210)) :: (70, tabObj tb') :: (TO, listOf (toldV ++ [Value.str (pathOf (((ps' ++ [qq]) ++ ps₂).map (·.b))) t1]).toArray nTo') :: (TU, listOf (turnV ++ [Value.str (tpth (ps'.map (·.b))) t2]).toArray nTu') :: (PL, listOf (placeV ++ [Value.str (pathOf (((ps' ++ [qq]) ++ ps₂).map (·.b))) t3]).toArray nPl') :: ((ps₂.map fun q => (q.a, q.obj)) ++ (qq.a, qq.obj) :: rest)) →
      (∀ q ∈ qq :: ps₂, (p < q.a ∧ d < q.a ∧ @LT.lt Nat _ 70 q.a ∧ TO < q.a ∧ TU < q.a ∧ PL < q.a) ∧ ∀ r ∈ rest, @LT.lt Nat _ r.1 q.a) → AllBare gs → TabOk strPos tb' → Q .next { s with heap := h', gens := gs, drawn := dr, toks := tk })
    (hE : PassesOwn (model PySem.Challenge.pw_qw0044_01 w) (callerA.deeper (lawEnv w L fa)) (lawEnv w L fa) E) :
    wpAny (model PySem.Challenge.pw_qw0044_01 w) (callerA.deeper (lawEnv w L fa)) (execs (forBody w) (lawEnv w L fa)) Q E s := by
  k_with_none
  k_with "subscriptTail Name Name ref int" => (((with_reducible show wpAny _ _ (subscriptTail _ _ (Value.ref _) (Value.int _ _)) _ _ _); (with_unfolding_all refine' item_list_ints ?k1 ?k2 ?k3 ?k4 ?k5 ?_; (case k1 => exact isList_of (by k_asm) (by k_mem)); (case k2 => assumption); (case k3 => omega); (case k4 => omega); (case k5 => omega); k_whole); intro _))
  k_with "getMethod ref" => ((k_here; (with_reducible show wpAny _ _ (getMethod (Value.ref _) (PySem.Str.ofString "push") _) _ _ _); k_dflt (refine' pile_m_push ?F ?X ?N ?h1 ?h2 ?_; (case F => k_asm); (case X => k_asm); (case N => k_asm); (case h1 => k_mem); (case h2 => k_mem)); (try dsimp only)))
  k_with "getMethod ref" => ((k_here; (with_reducible show wpAny _ _ (getMethod (Value.ref _) (PySem.Str.ofString "part_count") _) _ _ _); k_dflt (refine' pile_m_count ?F ?X ?N ?h1 ?h2 ?_; (case F => k_asm); (case X => k_asm); (case N => k_asm); (case h1 => k_mem); (case h2 => k_mem)); (try dsimp only)))
  k_with "call ref" => ((k_here; (with_reducible show wpAny _ _ (PySem.call (Value.ref 98) _) _ _ _); k_dflt (refine' count_K ?B ?F ?X ?N ?T ?hA ?hf ?hke ?hr ?_; (case B => k_asm); (case F => k_asm); (case X => k_asm); (case N => k_asm); (case T => k_asm); (case hA => exact rfl); (case hf => exact rfl); (case hke => exact rfl); (case hr => k_room)); intro h'9k ti'9k tk'9k F'9k N'9k; (try dsimp only)))
  k_with "call ref" => ((k_here; refine Halt.of ?_))
  k_with "eval BoolOp" => ((k_here; (fail_if_success (have : Marker := by assumption)); refine Halt.of ?_))
  k_with "exec While" => ((k_here; refine Halt.of ?_))
  k_with "exec While BoolOp" => ((k_here; refine Halt.of ?_))
  k_with "exec For Name Call cons nil" => ((k_here; refine Halt.of ?_))
  k_with "exec For" => ((k_here; refine Halt.of ?_))
  k_with "eval Name" => ((k_here; k_dflt (first | (refine' nameX_L ?F ?v ?_ ?a ?b; (case F => k_asm); (case a => rfl); (case b => rfl); (case v => first | assumption | exact m_ne' (by decide) (by assumption)); k_whole) | (refine' nameX_C ?N ?c ?m ?d ?_ ?a ?b; (case a => rfl); (case b => rfl); (case N => k_asm); (case c => rfl); (case m => k_mem); (case d => k_asm); k_whole) | (refine' nameX_B ?F ?X ?T ?e ?v ?n ?_ ?a ?b; (case F => k_asm); (case X => k_asm); (case T => k_asm); (case a => rfl); (case b => rfl); (case e => k_is); (case v => boot_fast); (case n => decide); k_whole))))
  have e3 : ∃ fd, lawFd w = fd := ⟨_, rfl⟩
  clear e3
  revert KX
  have h0 : PySem.Challenge.rw_qw0044_01.Holds ∨ True := .inr trivial
  revert h0
  k_fill
  intro h0 KX
  clear h0
  have wk := @while_K w base h₀
  have pl := @push_loop w base h₀
  refine' (fun e3 => ?main) (fd_pick (w := w) ?hp)
  case hp => k_is
  rotate_left
  unfold elseBody at pl
  unfold forBody lawBody lawEnv at *
  rw [e3] at hE wk pl ⊢
  dsimp only [bodyOf, forBodyOf, List.getD_cons_zero, List.getD_cons_succ] at hE wk pl ⊢
  dsimp only [elseOf, List.getD_cons_zero, List.getD_cons_succ] at pl
  have nd0 := nd.1.1
  have nd1 := nd.1.2.1
  have nd2 := nd.1.2.2.1
  have nd3 := nd.1.2.2.2.1
  have nd4 := nd.1.2.2.2.2
  have nd5 := nd.2.1.1
  have nd6 := nd.2.1.2.1
  have nd7 := nd.2.1.2.2.1
  have nd8 := nd.2.1.2.2.2
  have nd9 := nd.2.2.1.1
  have nd10 := nd.2.2.1.2.1
  have nd11 := nd.2.2.1.2.2
  have nd12 := nd.2.2.2.1.1
  have nd13 := nd.2.2.2.1.2
  have nd14 := nd.2.2.2.2
  k_steps
  refine Halt.go ?_
  rename News _ _ _ _ => N1
  rename Fr _ _ _ _ => F1
  have hp1 := m_ne' (x := Str.ofString "pile") (y := Str.ofString "name") (v := some (.str (Str.ofString "b") s.toks)) (by decide) hp
  refine wk (ps := ps) (t := s.toks) B F1 KX N1 T ?hn hp1 (fun q hq => .tail _ (.tail _ (.tail _ (.tail _ (hmem q hq))))) ?hpr nd.1.1.symm (by omega) (fun ps' b' t' k' m' h' tk hcut hnil hm' hn' F2 N2 => ?_) hE
  case hn => exact if_pos rfl
  case hpr =>
    have := nd
    k_all
  have hm3 : ∀ x, (x == Str.ofString "name") = false → m' x = m x := fun x hx => by
    rw [hm' x hx]
    exact if_neg (fun e => by rw [e] at hx; simp at hx)
  have hmk2 : m' (Str.ofString "mark") = some (.int (k : Int) t) := by rw [hm' _ (by decide)]; exact m_ne' (by decide) hmk
  have hp2 : m' (Str.ofString "pile") = some (.ref p) := by rw [hm' _ (by decide)]; exact m_ne' (by decide) hp
  have htu2 : m' (Str.ofString "turns") = some (.ref TU) := by rw [hm' _ (by decide)]; exact m_ne' (by decide) htu
  have hto2 : m' (Str.ofString "told") = some (.ref TO) := by rw [hm' _ (by decide)]; exact m_ne' (by decide) hto
  clear N1 F1
  cases b' with
  | true =>
    rw [hnil rfl] at N2 hcut
    rw [show nmP true = Str.ofString "b" from rfl] at hn'
    k_steps
    rename News _ _ _ _ => N9
    rename Fr _ _ _ _ => F9
    simp only [List.push_toArray] at N9
    exact hN _ _ _ _ _ hcut hm3 F9 N9
  | false =>
    rw [show nmP false = Str.ofString "a" from rfl] at hn'
    k_steps
    refine Halt.go ?_
    have hps : ps'.length ≤ ps.length ∧ ∀ q ∈ ps', q ∈ ps := by
      rcases hcut with ⟨_, a, tr, e, _⟩ | ⟨_, tr, e, _⟩
      · rw [e]; exact ⟨by simp, fun q hq => List.mem_append_left _ hq⟩
      · rw [e]; exact ⟨by simp, fun q hq => List.mem_append_left _ hq⟩
    have hpl : ((pathOf (ps'.map (·.b))).length : Int) = 2 * ps'.length := by rw [pathOf_pth, pth_len, List.length_map]; omega
    refine wpAny_mono (Q := fun v' s' => Halt (∃ h3 gs3 dr3 tk3 tv3 tb3, s' = { s with heap := h3, gens := gs3, drawn := dr3, toks := tk3 } ∧ v' = .str (tpth (ps'.map (·.b))) tv3 ∧ Fr h₀ L h3 m' ∧ News h₀ L h3 ((p, pileObj d (ps'.map fun q => .ref q.a) k') :: (d, iniD w tn (.int 0 210)) :: (70, tabObj tb3) :: (TO, listOf toldV.toArray nTo) :: (TU, listOf turnV.toArray nTu) :: (PL, listOf placeV.toArray nPl) :: rest) ∧ AllBare gs3 ∧ TabOk strPos tb3)) ?sub (fun v' s' hx => ?_) fun _ _ e => e
    case sub =>
      have mk : Marker := trivial
      k_steps
      refine Halt.go ?_
      refine str_K (ps := ps') B F2 KX N2 T rfl rfl rfl rfl (by k_room) (Nat.le_of_ble_eq_true rfl) (by omega) (fun q hq => .tail _ (.tail _ (.tail _ (hmem q (hps.2 q hq))))) G htb ?h70 fun h3 gs3 dr3 tk3 tv3 tb3 F3 N3 G3 htb3 => ?_
      case h70 =>
        have := nd
        k_all
      unfold StrBack
      dsimp only
      k_steps
      · rename _ ≠ (0 : Int) => hne
        refine ⟨h3, gs3, dr3, _, tv3, tb3, rfl, ?_, F3, N3, G3, htb3⟩
        rw [pathOf_pth]
        unfold tpth
        cases ps' with
        | nil => exact absurd (by rw [hpl]; rfl) hne
        | cons => rfl
      · rename _ = (0 : Int) => hz
        have hnil2 : ps' = [] := by
          cases ps' with
          | nil => rfl
          | cons a r => rw [hpl] at hz; simp at hz; omega
        have e : Str.ofString "/" = tpth (ps'.map (·.b)) := by rw [hnil2]; rfl
        exact ⟨h3, gs3, dr3, _, _, tb3, rfl, congrArg (fun x => Value.str x _) e, F3, N3, G3, htb3⟩
    refine Classical.byContradiction fun hn9 => ?_
    obtain ⟨h3, gs3, dr3, tk3, tv3, tb3, rfl, rfl, F3, N3, G3, htb3⟩ := hx
    refine hn9 ?_
    clear hn9
    clear N2 F2
    k_steps
    refine Halt.go ?_
    rename News _ _ _ _ => N4
    rename Fr _ _ _ _ => F4
    refine push_K B F4 KX N4 T rfl rfl rfl (by k_room) (by rw [List.length_map]; omega) ?hpr2 fun q h5 tk5 F5 N5 l5 => ?_
    case hpr2 =>
      have := nd
      k_all
    have l6 := allLt_mem l5
    refine Classical.byContradiction fun hn9 => ?_
    obtain ⟨qq, rfl, hqb, hqo⟩ : ∃ qq : Piece, qq.a = q ∧ qq.b = true ∧ h5.get? q = some qq.obj := ⟨Piece.mk q _ true _, rfl, rfl, (N5 _ (.head _)).1⟩
    refine hn9 ?_
    clear hn9
    have N6 : News h₀ L h5 ((p, pileObj d ((ps' ++ [qq]).map fun q => .ref q.a) (k' + 1)) :: (d, iniD w tn (.int 0 210)) :: (70, tabObj tb3) :: (TO, listOf toldV.toArray nTo) :: (TU, _) :: (PL, listOf placeV.toArray nPl) :: (qq.a, qq.obj) :: rest) := fun r hr => by
      rw [List.map_append] at hr
      rcases List.mem_cons.mp hr with rfl | hr
      · exact N5 _ (.tail _ (.head _))
      rcases List.mem_cons.mp hr with rfl | hr
      · exact N5 _ (.tail _ (.tail _ (.head _)))
      rcases List.mem_cons.mp hr with rfl | hr
      · exact N5 _ (.tail _ (.tail _ (.tail _ (.head _))))
      rcases List.mem_cons.mp hr with rfl | hr
      · exact N5 _ (.tail _ (.tail _ (.tail _ (.tail _ (.head _)))))
      rcases List.mem_cons.mp hr with rfl | hr
      · exact N5 _ (.tail _ (.tail _ (.tail _ (.tail _ (.tail _ (.head _))))))
      rcases List.mem_cons.mp hr with rfl | hr
      · exact N5 _ (.tail _ (.tail _ (.tail _ (.tail _ (.tail _ (.tail _ (.head _)))))))
      rcases List.mem_cons.mp hr with rfl | hr
      · exact ⟨hqo, (N5 _ (.head _)).2⟩
      · exact N5 _ (.tail _ (.tail _ (.tail _ (.tail _ (.tail _ (.tail _ (.tail _ hr)))))))
    clear N4 F4
    k_steps
    refine Halt.go ?_
    refine pl (ps := ps' ++ [qq]) (D := D) (ds := ds) (ys := ys) (nD := nD) (k := k) (t := t) (o2 := o2) B F5 KX N6 T hmk2 hp2 ?hpr3 nd.1.1.symm (by rw [List.length_append, List.length_cons, List.length_nil]; omega) (.tail _ (.tail _ (.tail _ (.tail _ (.tail _ h2))))) hd2 (.tail _ (.tail _ (.tail _ (.tail _ (.tail _ hD))))) hys hk hdl hd14 (fun ps₂ np9 m9 h9 tk9 e1 e2 e4 F9 N9 e5 => ?_) hE
    case hpr3 =>
      have := nd
      have l7 : @Ne Nat qq.a p := Nat.ne_of_gt (l6 _ (.head _))
      k_all
    have e6 : (ps' ++ [qq] ++ ps₂).length ≤ 200 := by
      rw [List.length_append, List.length_append, List.length_cons, List.length_nil] at *
      have : ds.getD k 0 ≤ 4 := by
        have e : ds.getD k 0 = ds[k] := by simp [hk]
        rw [e]; exact (hd14 _ (List.getElem_mem hk)).2
      omega
    have N10 : News h₀ L h9 ((p, pileObj d ((ps' ++ [qq] ++ ps₂).map fun q => .ref q.a) np9) :: (d, iniD w tn (.int 0 210)) :: (70, tabObj tb3) :: (TO, listOf toldV.toArray nTo) :: (TU, _) :: (PL, listOf placeV.toArray nPl) :: ((ps₂.map fun q => (q.a, q.obj)) ++ (qq.a, qq.obj) :: rest)) := fun r hr => by
      rcases List.mem_cons.mp hr with rfl | hr
      · exact N9 _ (.head _)
      rcases List.mem_cons.mp hr with rfl | hr
      · exact N9 _ (.tail _ (.head _))
      rcases List.mem_cons.mp hr with rfl | hr
      · exact N9 _ (.tail _ (.tail _ (List.mem_append_right _ (.head _))))
      rcases List.mem_cons.mp hr with rfl | hr
      · exact N9 _ (.tail _ (.tail _ (List.mem_append_right _ (.tail _ (.head _)))))
      rcases List.mem_cons.mp hr with rfl | hr
      · exact N9 _ (.tail _ (.tail _ (List.mem_append_right _ (.tail _ (.tail _ (.head _))))))
      rcases List.mem_cons.mp hr with rfl | hr
      · exact N9 _ (.tail _ (.tail _ (List.mem_append_right _ (.tail _ (.tail _ (.tail _ (.head _)))))))
      rcases List.mem_append.mp hr with hr | hr
      · exact N9 _ (.tail _ (.tail _ (List.mem_append_left _ hr)))
      · exact N9 _ (.tail _ (.tail _ (List.mem_append_right _ (.tail _ (.tail _ (.tail _ (.tail _ hr)))))))
    have e7 : ∀ q ∈ qq :: ps₂, (p < q.a ∧ d < q.a ∧ @LT.lt Nat _ 70 q.a ∧ TO < q.a ∧ TU < q.a ∧ PL < q.a) ∧ ∀ r ∈ rest, @LT.lt Nat _ r.1 q.a := fun q hq => by
      rcases List.mem_cons.mp hq with rfl | hq
      · exact ⟨⟨l6 (p, _) (.head _), l6 (d, _) (.tail _ (.head _)), l6 (70, _) (.tail _ (.tail _ (.head _))), l6 (TO, _) (.tail _ (.tail _ (.tail _ (.head _)))), l6 (TU, _) (.tail _ (.tail _ (.tail _ (.tail _ (.head _))))), l6 (PL, _) (.tail _ (.tail _ (.tail _ (.tail _ (.tail _ (.head _))))))⟩, fun r hr => l6 r (.tail _ (.tail _ (.tail _ (.tail _ (.tail _ (.tail _ hr))))))⟩
      · have e8 := e5 q hq
        exact ⟨⟨e8.1, e8.2.1, e8.2.2 (70, _) (.head _), e8.2.2 (TO, _) (.tail _ (.head _)), e8.2.2 (TU, _) (.tail _ (.tail _ (.head _))), e8.2.2 (PL, _) (.tail _ (.tail _ (.tail _ (.head _))))⟩, fun r hr => e8.2.2 r (.tail _ (.tail _ (.tail _ (.tail _ (.tail _ hr)))))⟩
    generalize hrest : ((ps₂.map fun q => (q.a, q.obj)) ++ (qq.a, qq.obj) :: rest) = rest9 at N10
    have rr : ∀ x : Addr, (∀ r ∈ rest, r.1 ≠ x) → (∀ q ∈ qq :: ps₂, @LT.lt Nat _ x q.a) → ∀ r ∈ rest9, r.1 ≠ x := fun x g1 g2 r hr => by
      rw [← hrest] at hr
      rcases List.mem_append.mp hr with hr | hr
      · obtain ⟨q, hq, rfl⟩ := List.mem_map.mp hr
        exact Nat.ne_of_gt (g2 q (.tail _ hq))
      rcases List.mem_cons.mp hr with rfl | hr
      · exact Nat.ne_of_gt (g2 qq (.head _))
      · exact g1 r hr
    have rp9 := rr p rp fun q hq => (e7 q hq).1.1
    have rd9 := rr d rd fun q hq => (e7 q hq).1.2.1
    have r709 := rr 70 r70 fun q hq => (e7 q hq).1.2.2.1
    have rTO9 := rr TO rTO fun q hq => (e7 q hq).1.2.2.2.1
    have rTU9 := rr TU rTU fun q hq => (e7 q hq).1.2.2.2.2.1
    have rPL9 := rr PL rPL fun q hq => (e7 q hq).1.2.2.2.2.2
    have mr : ∀ r ∈ rest, r ∈ rest9 := fun r hr => by rw [← hrest]; exact List.mem_append_right _ (.tail _ hr)
    have h19 := mr _ h1
    have hmem9 : ∀ q ∈ ps' ++ [qq] ++ ps₂, (q.a, q.obj) ∈ rest9 := fun q hq => by
      rcases List.mem_append.mp hq with hq | hq
      · rcases List.mem_append.mp hq with hq | hq
        · exact mr _ (hmem q (hps.2 q hq))
        · rw [List.mem_singleton.mp hq, ← hrest]; exact List.mem_append_right _ (.head _)
      · rw [← hrest]; exact List.mem_append_left _ (List.mem_map.mpr ⟨q, hq, rfl⟩)
    have hp9 : m9 (Str.ofString "pile") = some (.ref p) := by rw [e4 _ (by decide)]; exact hp2
    have hto9 : m9 (Str.ofString "told") = some (.ref TO) := by rw [e4 _ (by decide)]; exact hto2
    clear N9 N6
    k_steps
    refine Halt.go ?_
    refine str_K (ps := ps' ++ [qq] ++ ps₂) B F9 KX N10 T rfl rfl rfl rfl (by k_room) (Nat.le_of_ble_eq_true rfl) (by omega) (fun q hq => .tail _ (.tail _ (.tail _ (hmem9 q hq)))) G3 htb3 ?h702 fun h10 gs10 dr10 tk10 tv10 tb10 F10 N11 G10 htb10 => ?_
    case h702 =>
      have := nd
      k_all
    unfold StrBack
    dsimp only
    clear N10 F9
    k_steps
    refine Halt.go ?_
    rename News _ _ _ _ => N12
    rename Fr _ _ _ _ => F12
    refine str_K (ps := ps' ++ [qq] ++ ps₂) B F12 KX N12 T rfl rfl rfl rfl (by k_room) (Nat.le_of_ble_eq_true rfl) (by omega) (fun q hq => .tail _ (.tail _ (.tail _ (hmem9 q hq)))) G10 htb10 ?h703 fun h11 gs11 dr11 tk11 tv11 tb11 F13 N13 G11 htb11 => ?_
    case h703 =>
      have := nd
      k_all
    unfold StrBack
    dsimp only
    clear N12 F12
    k_steps
    rename News _ _ _ _ => N14
    rename Fr _ _ _ _ => F14
    rw [← hrest] at N14
    simp only [List.push_toArray] at N14
    refine hS ps' qq ps₂ _ _ _ _ _ _ _ _ _ _ _ _ _ hcut hqb (by rw [e1, List.length_append]; rfl) e2 ?mf F14 N14 e7 G11 htb11
    case mf =>
      intro x hx1 hx2
      rw [e4 x hx2]
      exact hm3 x hx1
end
end Mine
end

section
open PySem PySem.W PyProof.Rows
namespace Mine
local macro_rules | `(tactic| walk_at "no goal") => `(tactic| skip)
theorem freshZ1 : True ∧ True := by
  k_with_none
  w_top off
  first | (walk1; done) | exact ⟨trivial, trivial⟩
end Mine
end

/-! part Z1 -/
section
open PySem PySem.W PySem.W.X PyProof.Rows PySem.Calls
set_option maxRecDepth 100000
namespace Mine
/-- what the loop holds: the pile's names, and what was noted -/
structure St where
  stk : List Bool
  tolds : List (Option (List Bool))
  trs : List (List Bool)
  pls : List (List Bool)
def grow (c : List Bool) (n : Nat) : List Bool := c ++ true :: List.replicate n false
inductive Step (ds : List Int) (k : Nat) : St → St → Prop
  | none {stk tolds trs pls} : (∀ b ∈ stk, b = true) → Step ds k ⟨stk, tolds, trs, pls⟩ ⟨[], tolds ++ [Option.none], trs, pls⟩
  | some {c tr : List Bool} {n : Nat} {tolds trs pls} : (∀ b ∈ tr, b = true) → (n : Int) = max 0 (ds.getD k 0 + 1 - ((c.length + 1 : Nat) : Int)) →
      Step ds k ⟨c ++ false :: tr, tolds, trs, pls⟩ ⟨grow c n, tolds ++ [Option.some (grow c n)], trs ++ [c], pls ++ [grow c n]⟩
inductive Run (ds : List Int) : List Nat → St → Prop
  | nil : Run ds [] ⟨[false], [], [], [[false]]⟩
  | snoc {l k st st'} : Run ds l st → Step ds k st st' → Run ds (l ++ [k]) st'
def cutR : List Bool → Option (List Bool)
  | [] => none
  | true :: r => cutR r
  | false :: r => some r
def cut (l : List Bool) : Option (List Bool) := (cutR l.reverse).map List.reverse
theorem cutR_all : ∀ {l : List Bool}, (∀ b ∈ l, b = true) → cutR l = none
  | [], _ => rfl
  | b :: r, h => by
    have e := h b (.head _)
    subst e
    exact cutR_all (l := r) fun x hx => h x (.tail _ hx)
theorem cutR_app : ∀ {l r : List Bool}, (∀ b ∈ l, b = true) → cutR (l ++ r) = cutR r
  | [], _, _ => rfl
  | b :: l, r, h => by
    have e := h b (.head _)
    subst e
    exact cutR_app (l := l) fun x hx => h x (.tail _ hx)
theorem cut_none {l : List Bool} (h : ∀ b ∈ l, b = true) : cut l = none := by
  unfold cut
  rw [cutR_all fun b hb => h b (List.mem_reverse.mp hb)]; rfl
theorem cut_some {c tr : List Bool} (h : ∀ b ∈ tr, b = true) : cut (c ++ false :: tr) = some c := by
  unfold cut
  rw [List.reverse_append, List.reverse_cons, List.append_assoc, cutR_app fun b hb => h b (List.mem_reverse.mp hb)]
  simp [cutR]
def shn (d : Nat) : Nat := 16 / 2 ^ d
def bitN (A j : Nat) : Bool := decide (A / 2 ^ (3 - j) % 2 = 1)
def stkOf (A d : Nat) : List Bool := true :: (List.range d).map (bitN A)
/-- the next place, and what is cut -/
def okNext (A d d' : Nat) : Bool :=
  if A % shn d = 0 ∧ A + shn d < 16 ∧ 1 ≤ d ∧ d ≤ d' then
    (match cut (stkOf A d) with
     | none => false
     | some c => grow c (d' - c.length) == stkOf (A + shn d) d') && decide (A + shn d + shn d' ≤ 16) && decide ((A + shn d) % shn d' = 0)
  else true
def okFull (A d : Nat) : Bool := if A % shn d = 0 ∧ A + shn d = 16 ∧ 1 ≤ d then (cut (stkOf A d)).isNone else true
theorem all_next : ∀ A, A < 16 → ∀ d, d < 5 → ∀ d', d' < 5 → okNext A d d' = true := by decide +kernel
theorem all_full : ∀ A, A < 16 → ∀ d, d < 5 → okFull A d = true := by decide +kernel
theorem all_start : ∀ d, d < 5 → grow [] d = stkOf 0 d ∧ shn d ≤ 16 ∧ 0 < shn d := by decide +kernel
theorem bit_eq (A j : Nat) : bitOf (A : Int) j = bitN A j := by
  unfold bitOf bitN
  rw [Int.fdiv_eq_ediv_of_nonneg _ (by exact Int.le_of_lt (Int.pow_pos (by decide))), Int.fmod_eq_emod_of_nonneg _ (by decide)]
  have e : ((A : Int) / 2 ^ (3 - j)) % 2 = ((A / 2 ^ (3 - j) % 2 : Nat) : Int) := by simp
  rw [e]
  exact decide_eq_decide.mpr (by lia)
theorem shr_eq {d : Int} (h : 1 ≤ d ∧ d ≤ 4) : shr d = ((shn d.toNat : Nat) : Int) := by
  have : d = 1 ∨ d = 2 ∨ d = 3 ∨ d = 4 := by lia
  rcases this with rfl | rfl | rfl | rfl <;> decide
def dn (ds : List Int) (k : Nat) : Nat := (ds.getD k 0).toNat
def sums (ds : List Int) (l : List Nat) : Nat := (l.map fun k => shn (dn ds k)).sum
theorem sums_snoc (ds : List Int) (l : List Nat) (k : Nat) : sums ds (l ++ [k]) = sums ds l + shn (dn ds k) := by
  unfold sums; simp
theorem getD_14 {ds : List Int} (h : ∀ d ∈ ds, 1 ≤ d ∧ d ≤ 4) {k : Nat} (hk : k < ds.length) : 1 ≤ ds.getD k 0 ∧ ds.getD k 0 ≤ 4 := by
  have e : ds.getD k 0 = ds[k] := by simp [hk]
  rw [e]; exact h _ (List.getElem_mem hk)
theorem perm_sum : ∀ {a b : List Int}, a.Perm b → a.sum = b.sum := by
  intro a b h
  induction h with
  | nil => rfl
  | cons x _ ih => simp only [List.sum_cons, ih]
  | swap x y l => simp only [List.sum_cons]; lia
  | trans _ _ h1 h2 => exact h1.trans h2
theorem sum_cast {ds : List Int} (hd : ∀ d ∈ ds, 1 ≤ d ∧ d ≤ 4) : ∀ {l : List Nat}, (∀ a ∈ l, a < ds.length) → (l.map fun a => shr (ds.getD a 0)).sum = ((sums ds l : Nat) : Int)
  | [], _ => rfl
  | a :: r, h => by
    have ih := sum_cast hd (l := r) fun x hx => h x (.tail _ hx)
    rw [List.map_cons, List.sum_cons, ih, shr_eq (getD_14 hd (h a (.head _)))]
    unfold sums dn
    simp
theorem ahead_eq {ds : List Int} (hd : ∀ d ∈ ds, 1 ≤ d ∧ d ≤ 4) {l rest : List Nat} {k : Nat} (hp : (l ++ k :: rest).Perm (List.range ds.length)) (hw : (l ++ k :: rest).Pairwise (Bef fun i => ds.getD i 0)) :
    ahead ds k = ((sums ds l : Nat) : Int) := by
  obtain ⟨w1, w2, w3⟩ := List.pairwise_append.mp hw
  have w4 := List.pairwise_cons.mp w2
  have e1 : (l ++ k :: rest).filter (befB ds k) = l := by
    rw [List.filter_append, List.filter_cons]
    have n1 : l.filter (befB ds k) = l := List.filter_eq_self.mpr fun a ha => decide_eq_true (by
      have := w3 a ha k (.head _)
      exact this)
    have n2 : befB ds k k = false := decide_eq_false (by lia)
    have n3 : rest.filter (befB ds k) = [] := List.filter_eq_nil_iff.mpr fun a ha => by
      have := w4.1 a ha
      unfold Bef at this
      dsimp only at this
      unfold befB
      simp only [decide_eq_true_eq]
      lia
    rw [n1, n2, n3]; simp
  unfold ahead
  rw [perm_sum ((hp.symm.filter (befB ds k)).map _), e1]
  refine sum_cast hd fun a ha => ?_
  have := hp.mem_iff.mp (List.mem_append_left _ ha)
  exact List.mem_range.mp this
theorem place_none {ds : List Int} (hd : ∀ d ∈ ds, 1 ≤ d ∧ d ≤ 4) {k A : Nat} (hk : k < ds.length) (h : ahead ds k = (A : Int)) (h16 : 16 < A + shn (dn ds k)) : placeOf ds k = none := by
  unfold placeOf
  rw [h, shr_eq (getD_14 hd hk)]
  exact if_pos (by unfold dn at h16; lia)
theorem place_some {ds : List Int} (hd : ∀ d ∈ ds, 1 ≤ d ∧ d ≤ 4) {k A : Nat} (hk : k < ds.length) (h : ahead ds k = (A : Int)) (h16 : A + shn (dn ds k) ≤ 16) : placeOf ds k = some (stkOf A (dn ds k)) := by
  unfold placeOf
  rw [h, shr_eq (getD_14 hd hk), if_neg (by unfold dn at h16; lia)]
  unfold stkOf dn
  congr 2
  exact List.map_congr_left fun j _ => bit_eq A j
/-- what holds of the pile after the marks of l -/
def PileInv (ds : List Int) (l : List Nat) (stk : List Bool) : Prop :=
  (l = [] ∧ stk = [false]) ∨ (∃ l' k, l = l' ++ [k] ∧ sums ds l' < 16 ∧ sums ds l' % shn (dn ds k) = 0 ∧ sums ds l' + shn (dn ds k) ≤ 16 ∧ stk = stkOf (sums ds l') (dn ds k)) ∨ (16 ≤ sums ds l ∧ ∀ b ∈ stk, b = true)
theorem inv_step {ds : List Int} (hd : ∀ d ∈ ds, 1 ≤ d ∧ d ≤ 4) {l rest : List Nat} {k : Nat} (hp : (l ++ k :: rest).Perm (List.range ds.length)) (hw : (l ++ k :: rest).Pairwise (Bef fun i => ds.getD i 0))
    {st st' : St} (I : PileInv ds l st.stk) (S : Step ds k st st') : PileInv ds (l ++ [k]) st'.stk ∧ st'.tolds = st.tolds ++ [placeOf ds k] := by
  have lt : ∀ a ∈ l ++ k :: rest, a < ds.length := fun a ha => List.mem_range.mp (hp.mem_iff.mp ha)
  have hk : k < ds.length := lt k (by simp)
  have hA := ahead_eq hd hp hw
  have h14 := getD_14 hd hk
  have hdn : 1 ≤ dn ds k ∧ dn ds k < 5 := by unfold dn; lia
  have pos := (all_start _ hdn.2).2.2
  have full : 16 ≤ sums ds l → cut st.stk = none → PileInv ds (l ++ [k]) st'.stk ∧ st'.tolds = st.tolds ++ [placeOf ds k] := fun h16 hc => by
    cases S with
    | none hall => exact ⟨.inr (.inr ⟨by rw [sums_snoc]; lia, fun b hb => nomatch hb⟩), by rw [place_none hd hk hA (by lia)]⟩
    | some htr hn => rw [cut_some htr] at hc; cases hc
  have grows : ∀ c, cut st.stk = some c → grow c (dn ds k - c.length) = stkOf (sums ds l) (dn ds k) → sums ds l + shn (dn ds k) ≤ 16 → sums ds l < 16 → sums ds l % shn (dn ds k) = 0 → PileInv ds (l ++ [k]) st'.stk ∧ st'.tolds = st.tolds ++ [placeOf ds k] := fun c hc hg h16 hlt hmod => by
    cases S with
    | none hall => rw [cut_none hall] at hc; cases hc
    | @some c' tr n _ _ _ htr hn =>
      rw [cut_some htr] at hc
      obtain rfl := Option.some.inj hc
      have en : n = dn ds k - c'.length := by unfold dn; lia
      rw [en, hg]
      exact ⟨.inr (.inl ⟨l, k, rfl, hlt, hmod, h16, rfl⟩), by rw [place_some hd hk hA h16]⟩
  rcases I with ⟨rfl, hst⟩ | ⟨l', k', rfl, hlt, hmod, hle, hst⟩ | ⟨h16, hall⟩
  · have a := all_start _ hdn.2
    refine grows [] (by rw [hst]; rfl) (by rw [show (dn ds k - ([] : List Bool).length) = dn ds k from rfl, a.1]; rfl) (by have : sums ds [] = 0 := rfl; lia) (by have : sums ds [] = 0 := rfl; lia) (Nat.zero_mod _)
  · have hk' : k' < ds.length := lt k' (by simp)
    have h14' := getD_14 hd hk'
    have hdn' : 1 ≤ dn ds k' ∧ dn ds k' < 5 := by unfold dn; lia
    have hb := (List.pairwise_append.mp hw).2.2 k' (by simp) k (.head _)
    have hdd : dn ds k' ≤ dn ds k := by unfold Bef at hb; dsimp only at hb; unfold dn; lia
    have es := sums_snoc ds l' k'
    by_cases hf : sums ds l' + shn (dn ds k') = 16
    · refine full (by lia) ?_
      have a := all_full _ hlt _ hdn'.2
      unfold okFull at a
      rw [if_pos ⟨hmod, hf, hdn'.1⟩] at a
      rw [hst]
      exact Option.isNone_iff_eq_none.mp a
    · have a := all_next _ hlt _ hdn'.2 _ hdn.2
      unfold okNext at a
      rw [if_pos ⟨hmod, by lia, hdn'.1, hdd⟩] at a
      simp only [Bool.and_eq_true, decide_eq_true_eq] at a
      rw [← hst] at a
      rw [← es] at a
      cases hc : cut st.stk with
      | none => rw [hc] at a; exact absurd a.1.1 (by simp)
      | some c =>
        rw [hc] at a
        dsimp only at a; exact grows c hc (eq_of_beq a.1.1) a.1.2 (by lia) a.2
  · exact full h16 (cut_none hall)
theorem run_inv {ds : List Int} (hd : ∀ d ∈ ds, 1 ≤ d ∧ d ≤ 4) {l : List Nat} {st : St} (R : Run ds l st) : ∀ rest, (l ++ rest).Perm (List.range ds.length) → (l ++ rest).Pairwise (Bef fun i => ds.getD i 0) → PileInv ds l st.stk ∧ st.tolds = l.map (placeOf ds) := by
  induction R with
  | nil => exact fun _ _ _ => ⟨.inl ⟨rfl, rfl⟩, rfl⟩
  | @snoc l k st st' _ S ih =>
    intro rest hp hw
    rw [List.append_assoc] at hp hw
    obtain ⟨I, e⟩ := ih _ hp hw
    obtain ⟨I', e'⟩ := inv_step hd hp hw I S
    exact ⟨I', by rw [e', e, List.map_append]; rfl⟩
theorem run_told {ds : List Int} (hd : ∀ d ∈ ds, 1 ≤ d ∧ d ≤ 4) {l : List Nat} {st : St} (R : Run ds l st) (hp : l.Perm (List.range ds.length)) (hw : l.Pairwise (Bef fun i => ds.getD i 0)) : st.tolds = l.map (placeOf ds) :=
  (run_inv hd R [] (by rw [List.append_nil]; exact hp) (by rw [List.append_nil]; exact hw)).2
/-- each turn names the common head of two places -/
structure TurnsOk (st : St) : Prop where
  len : st.pls.length = st.trs.length + 1
  stk : st.stk = [] ∨ st.pls.getLast? = some st.stk
  five : st.stk.length ≤ 5 ∧ ∀ bs ∈ st.pls, bs.length ≤ 5
  at_ : ∀ k, k < st.trs.length → ∃ c x y, st.trs[k]? = some c ∧ st.pls[k]? = some (c ++ false :: x) ∧ st.pls[k + 1]? = some (c ++ true :: y)
theorem step_turns {ds : List Int} {k : Nat} (hk : ds.getD k 0 ≤ 4) {st st' : St} (T : TurnsOk st) (S : Step ds k st st') : TurnsOk st' := by
  cases S with
  | none hall => exact ⟨T.len, .inl rfl, ⟨Nat.zero_le _, T.five.2⟩, T.at_⟩
  | @some c tr n tolds trs pls htr hn =>
    have f1 := T.five.1
    have hg : (grow c n).length ≤ 5 := by
      unfold grow
      simp only [List.length_append, List.length_cons, List.length_replicate] at f1 ⊢
      lia
    have last : pls.getLast? = some (c ++ false :: tr) := T.stk.resolve_left (by simp)
    have len := T.len
    dsimp only at len
    refine ⟨by simp [len], .inr (by simp), ⟨hg, fun bs hb => ?_⟩, fun j hj => ?_⟩
    · rcases List.mem_append.mp hb with hb | hb
      · exact T.five.2 bs hb
      · rw [List.mem_singleton.mp hb]; exact hg
    · dsimp only at hj ⊢
      rw [List.length_append, List.length_singleton] at hj
      by_cases hj2 : j < trs.length
      · obtain ⟨c', x, y, a1, a2, a3⟩ := T.at_ j hj2
        dsimp only at a1 a2 a3
        exact ⟨c', x, y, by rw [List.getElem?_append_left hj2]; exact a1, by rw [List.getElem?_append_left (by lia)]; exact a2, by rw [List.getElem?_append_left (by lia)]; exact a3⟩
      · have ej : j = trs.length := by lia
        subst ej
        refine ⟨c, tr, List.replicate n false, by simp, ?_, ?_⟩
        · rw [List.getElem?_append_left (by lia)]
          rw [List.getLast?_eq_getElem?] at last
          rw [show pls.length - 1 = trs.length by lia] at last
          exact last
        · rw [← len]; simp [grow]
theorem run_turns {ds : List Int} (hd : ∀ d ∈ ds, 1 ≤ d ∧ d ≤ 4) {l : List Nat} {st : St} (R : Run ds l st) : (∀ k ∈ l, k < ds.length) → TurnsOk st := by
  induction R with
  | nil => exact fun _ => ⟨rfl, .inr rfl, ⟨by decide, by decide⟩, fun k hk => nomatch hk⟩
  | @snoc l k st st' _ S ih =>
    intro h
    exact step_turns (getD_14 hd (h k (by simp))).2 (ih fun a ha => h a (List.mem_append_left _ ha)) S
theorem run_len {ds : List Int} {l : List Nat} {st : St} (R : Run ds l st) : st.tolds.length ≤ l.length ∧ st.trs.length ≤ l.length ∧ st.pls.length ≤ l.length + 1 := by
  induction R with
  | nil => exact ⟨Nat.le_refl _, Nat.le_refl _, Nat.le_refl _⟩
  | @snoc l k st st' _ S ih =>
    cases S <;> (simp only [List.length_append, List.length_singleton] at ih ⊢; lia)
end Mine
end

section
open PySem PySem.W PyProof.Rows
namespace Mine
local macro_rules | `(tactic| walk_at "no goal") => `(tactic| skip)
local macro_rules | `(tactic| walk_at "no goal") => `(tactic| skip)
theorem freshW4 : True ∧ True := by
  k_with_none
  w_top off
  first | (walk1; done) | exact ⟨trivial, trivial⟩
end Mine
end

/-! part W4 -/
section
open PySem PySem.W PySem.W.X PyProof.Rows PySem.Calls
set_option maxRecDepth 100000
set_option maxHeartbeats 4000000
namespace Mine
local macro_rules | `(tactic| walk_at $s:str) => `(tactic| k_extra $s)
def pcsOf (pz : List Piece) : List (Addr × Obj) := pz.map fun q => (q.a, q.obj)
theorem nw_cons {h₀ h : Heap} {L : Addr} {p : Addr × Obj} {m l : List (Addr × Obj)} (N : News h₀ L h m) (hp : p ∈ m) (R : News h₀ L h l) : News h₀ L h (p :: l) := fun q hq => (List.mem_cons.mp hq).elim (fun e => e ▸ N p hp) fun hq => R q hq
theorem ne_cons {x : Addr} {p : Addr × Obj} {l : List (Addr × Obj)} (h : p.1 ≠ x) (R : ∀ r ∈ l, r.1 ≠ x) : ∀ r ∈ p :: l, r.1 ≠ x := fun q hq => (List.mem_cons.mp hq).elim (fun e => e ▸ h) fun hq => R q hq
theorem all_rest {I O a b D x1 x2 x : Nat} {io oO oa ob oD ox1 ox2 : Obj} {pz : List Piece} (h1 : I ≠ x) (h2 : O ≠ x) (h3 : a ≠ x) (h4 : b ≠ x) (h5 : D ≠ x) (h6 : x1 ≠ x) (h7 : x2 ≠ x) (h8 : ∀ q ∈ pz, q.a ≠ x) :
    ∀ r ∈ ((I, io) :: (O, oO) :: (a, oa) :: (b, ob) :: (D, oD) :: (x1, ox1) :: (x2, ox2) :: pcsOf pz : List (Addr × Obj)), r.1 ≠ x := fun r hr => by
  rcases List.mem_cons.mp hr with rfl | hr
  · exact h1
  rcases List.mem_cons.mp hr with rfl | hr
  · exact h2
  rcases List.mem_cons.mp hr with rfl | hr
  · exact h3
  rcases List.mem_cons.mp hr with rfl | hr
  · exact h4
  rcases List.mem_cons.mp hr with rfl | hr
  · exact h5
  rcases List.mem_cons.mp hr with rfl | hr
  · exact h6
  rcases List.mem_cons.mp hr with rfl | hr
  · exact h7
  obtain ⟨q, hq, rfl⟩ := List.mem_map.mp hr
  exact h8 q hq
section
variable {w : World} {base h₀ : Heap} {E : Value → Shared → Prop} {s : Shared} {L fa : Addr} {m mg mb : Str → Option Value} {pp : Program} {loose : List Str} {mean : ExcName → Option Value} {Q : Flow → Shared → Prop}
/-- what the loop keeps -/
def Keep (w : World) (L p d TO TU PL D : Addr) (o1 o2 : Obj) (tb1 tc : Array Value) (tn : Tok) (ds : List Int) (ys : List Value) (nD : Nat) (ord : List Nat) (m : Str → Option Value) (i : Nat) (m₁ : Str → Option Value) (news : List (Addr × Obj)) (gs : Array GenState) : Prop :=
  ∃ (st : St) (ps : List Piece) (np : Nat) (tb : Array Value) (toldV turnV placeV : List Value) (nTo nTu nPl : Nat) (pz : List Piece), Run ds (ord.take i) st ∧ ps.map (·.b) = st.stk ∧
    news = (p, pileObj d (ps.map fun q => .ref q.a) np) :: (d, iniD w tn (.int 0 210)) :: (70, tabObj tb) :: (TO, listOf toldV.toArray nTo) :: (TU, listOf turnV.toArray nTu) :: (PL, listOf placeV.toArray nPl) :: (L + 1 + 1, o2) :: (L + 1, o1) :: (D, listOf ys.toArray nD) :: (107, tabObj tb1) :: (227, tabObj tc) :: pcsOf pz ∧
    (∀ q ∈ ps, q ∈ pz) ∧ Paired PlaceIs st.tolds toldV ∧ Paired (fun bs v => ∃ t, v = Value.str (tpth bs) t) st.trs turnV ∧ Paired (fun bs v => ∃ t, v = Value.str (pth bs) t) st.pls placeV ∧
    (∀ q ∈ pz, @Ne Nat q.a p ∧ @Ne Nat q.a d ∧ @Ne Nat q.a 70 ∧ @Ne Nat q.a TO ∧ @Ne Nat q.a TU ∧ @Ne Nat q.a PL) ∧ TabOk strPos tb ∧ AllBare gs ∧
    (∀ x, (x == Str.ofString "name") = false → (x == Str.ofString "lack") = false → (x == Str.ofString "mark") = false → m₁ x = m x)
theorem main_loop {p d TO TU PL D O : Addr} {o1 o2 : Obj} {tb tb1 tc : Array Value} {tn tv : Tok} {q : Piece} {np nPl nO nD : Nat} {ds : List Int} {ys : List Value} {ord : List Nat} {tks : Nat → Tok}
    (B : Below callerA base [] h₀) (F : Fr h₀ L s.heap m) (KX : (hd.heap_1 w.params).In h₀) (T : Top pp loose mean mg mb h₀)
    (hor : m (Str.ofString "order") = some (.ref O)) (hp : m (Str.ofString "pile") = some (.ref p)) (htu : m (Str.ofString "turns") = some (.ref TU)) (hto : m (Str.ofString "told") = some (.ref TO))
    (hd1 : o1.data = .cell (some (.ref PL))) (hd2 : o2.data = .cell (some (.ref D))) (htb : TabOk strPos tb) (G : AllBare s.gens) (hq : q.b = false)
    (N : News h₀ L s.heap [(p, pileObj d [.ref q.a] np), (d, iniD w tn (.int 0 210)), (70, tabObj tb), (TO, listOf #[] 0), (TU, listOf #[] 0), (PL, listOf #[.str (pathOf [false]) tv] nPl), (L + 1 + 1, o2), (L + 1, o1), (D, listOf ys.toArray nD), (107, tabObj tb1), (227, tabObj tc), (O, listOf (ord.map fun i : Nat => Value.int (i : Int) (tks i)).toArray nO), (q.a, q.obj)])
    (nd : List.Nodup ([p, d, 70, TO, TU, PL, L + 2, L + 1, D, 107, 227, O, q.a] : List Nat))
    (hys : IntsAre ys ds) (hdl : ds.length ≤ 20) (hd14 : ∀ d ∈ ds, 1 ≤ d ∧ d ≤ 4) (hperm : ord.Perm (List.range ds.length))
    (h : ∀ (st : St) toldV turnV placeV nTo nTu nPl tb' m' h' gs dr tk, Run ds ord st → Paired PlaceIs st.tolds toldV → Paired (fun bs v => ∃ t, v = Value.str (tpth bs) t) st.trs turnV → Paired (fun bs v => ∃ t, v = Value.str (pth bs) t) st.pls placeV →
      (∀ x, (x == Str.ofString "name") = false → (x == Str.ofString "lack") = false → (x == Str.ofString "mark") = false → m' x = m x) → Fr h₀ L h' m' →
      News h₀ L h' [(70, tabObj tb'), (TO, listOf toldV.toArray nTo), (TU, listOf turnV.toArray nTu), (PL, listOf placeV.toArray nPl), (L + 1 + 1, o2), (L + 1, o1), (D, listOf ys.toArray nD), (107, tabObj tb1), (227, tabObj tc), (O, listOf (ord.map fun i : Nat => Value.int (i : Int) (tks i)).toArray nO)] → AllBare gs →
      Q .next { s with heap := h', gens := gs, drawn := dr, toks := tk })
    (hE : PassesOwn (model PySem.Challenge.pw_qw0044_01 w) (callerA.deeper (lawEnv w L fa)) (lawEnv w L fa) E) :
    wpAny (model PySem.Challenge.pw_qw0044_01 w) (callerA.deeper (lawEnv w L fa)) (exec ((lawBody w).getD 7 (.Pass default)) (lawEnv w L fa)) Q E s := by
  k_with_none
  k_with "execs cons" => ((k_here; refine Halt.of ?_))
  revert KX
  have h0 : PySem.Challenge.rw_qw0044_01.Holds ∨ True := .inr trivial
  revert h0
  k_fill
  intro h0 KX
  clear h0
  have tk := @turn_K w base h₀
  refine' (fun e3 => ?main) (fd_pick (w := w) ?hp)
  case hp => k_is
  rotate_left
  unfold forBody lawBody lawEnv at *
  rw [e3] at hE tk ⊢
  dsimp only [bodyOf, forBodyOf, List.getD_cons_zero, List.getD_cons_succ] at hE tk ⊢
  have ne : ∀ i j (h : i < j) (hj : j < 13), ([p, d, 70, TO, TU, PL, L + 2, L + 1, D, 107, 227, O, q.a] : List Nat)[i]'(Nat.lt_trans h hj) ≠ ([p, d, 70, TO, TU, PL, L + 2, L + 1, D, 107, 227, O, q.a] : List Nat)[j] := fun i j h hj => List.pairwise_iff_getElem.mp nd i j _ _ h
  have hordlt : ∀ k ∈ ord, k < ds.length := fun k hk => List.mem_range.mp (hperm.mem_iff.mp hk)
  have hol : ord.length = ds.length := by rw [hperm.length_eq, List.length_range]
  refine for_lst (h₀ := h₀) (O := O) (vs := ord.map fun i : Nat => Value.int (i : Int) (tks i)) (nO := nO) (news := (p, pileObj d ([q].map fun q => .ref q.a) np) :: (d, iniD w tn (.int 0 210)) :: (70, tabObj tb) :: (TO, listOf ([] : List Value).toArray 0) :: (TU, listOf ([] : List Value).toArray 0) :: (PL, listOf [Value.str (pathOf [false]) tv].toArray nPl) :: (L + 1 + 1, o2) :: (L + 1, o1) :: (D, listOf ys.toArray nD) :: (107, tabObj tb1) :: (227, tabObj tc) :: pcsOf [q]) rfl F (news_re N ?sub) ?hev
    (Keep w L p d TO TU PL D o1 o2 tb1 tc tn ds ys nD ord m) ?j0 ?step ?done (fun _ => rfl) hE
  case sub => simp only [pcsOf, List.map_cons, List.map_nil]; k_subL
  case hev =>
    intro R hR
    refine' nameX_L ?F ?v ?_ ?a ?b
    case F => exact F
    case v => exact hor
    case a => rfl
    case b => rfl
    exact hR
  case j0 =>
    refine ⟨⟨[false], [], [], [[false]]⟩, [q], np, tb, [], [], [.str (pathOf [false]) tv], 0, 0, nPl, [q], .nil, by simp [hq], rfl, fun _ h => h, .nil, .nil, .cons ⟨tv, by rw [pathOf_pth]⟩ .nil, ?_, htb, G, fun _ _ _ _ => rfl⟩
    intro r hr
    rw [List.mem_singleton.mp hr]
    exact ⟨(ne 0 12 (by decide) (by decide)).symm, (ne 1 12 (by decide) (by decide)).symm, (ne 2 12 (by decide) (by decide)).symm, (ne 3 12 (by decide) (by decide)).symm, (ne 4 12 (by decide) (by decide)).symm, (ne 5 12 (by decide) (by decide)).symm⟩
  case done =>
    rintro h' gs dr tk9 m' news' F9 N9 ⟨st, ps, np9, tb9, toldV, turnV, placeV, nTo, nTu, nPl9, pz, hrun, hstk, rfl, hpz, P1, P2, P3, _, _, G9, hm9⟩
    rw [List.length_map, List.take_length] at hrun
    refine h st toldV turnV placeV nTo nTu nPl9 tb9 m' h' gs dr tk9 hrun P1 P2 P3 hm9 F9 (news_re N9 ?_) G9
    k_subL
  case step =>
    rintro i v m₁ news₁ h₁ gs dr tk₁ I o hv ⟨st, ps, np1, tb9, toldV, turnV, placeV, nTo, nTu, nPl9, pz, hrun, hstk, rfl, hpz, P1, P2, P3, hz, htb1, G1, hm1⟩ hnI hOI hoc F1 N1
    have hi : i < ord.length := by
      have := (List.getElem?_eq_some_iff.mp hv).1
      simpa using this
    obtain ⟨k, hk, rfl⟩ : ∃ k, ord[i]? = some k ∧ v = Value.int (k : Int) (tks k) := by
      rw [List.getElem?_map, List.getElem?_eq_getElem hi] at hv
      exact ⟨ord[i], List.getElem?_eq_getElem hi, (Option.some.inj hv).symm⟩
    have hkd : k < ds.length := hordlt k (List.mem_of_getElem? hk)
    have htake : ord.take (i + 1) = ord.take i ++ [k] := by rw [List.take_succ, hk]; rfl
    have n5 : (@Ne Nat p d ∧ @Ne Nat p 70 ∧ @Ne Nat p TO ∧ @Ne Nat p TU ∧ @Ne Nat p PL) ∧ (@Ne Nat d 70 ∧ @Ne Nat d TO ∧ @Ne Nat d TU ∧ @Ne Nat d PL) ∧ (@Ne Nat 70 TO ∧ @Ne Nat 70 TU ∧ @Ne Nat 70 PL) ∧ (@Ne Nat TO TU ∧ @Ne Nat TO PL) ∧ @Ne Nat TU PL :=
      ⟨⟨ne 0 1 (by decide) (by decide), ne 0 2 (by decide) (by decide), ne 0 3 (by decide) (by decide), ne 0 4 (by decide) (by decide), ne 0 5 (by decide) (by decide)⟩, ⟨ne 1 2 (by decide) (by decide), ne 1 3 (by decide) (by decide), ne 1 4 (by decide) (by decide), ne 1 5 (by decide) (by decide)⟩, ⟨ne 2 3 (by decide) (by decide), ne 2 4 (by decide) (by decide), ne 2 5 (by decide) (by decide)⟩, ⟨ne 3 4 (by decide) (by decide), ne 3 5 (by decide) (by decide)⟩, ne 4 5 (by decide) (by decide)⟩
    have RP := all_rest (I := I) (io := o) (oO := listOf (ord.map fun i : Nat => Value.int (i : Int) (tks i)).toArray nO) (oa := o2) (ob := o1) (oD := listOf ys.toArray nD) (ox1 := tabObj tb1) (ox2 := tabObj tc) (hnI _ (.head _)).symm (ne 0 11 (by decide) (by decide)).symm (ne 0 6 (by decide) (by decide)).symm (ne 0 7 (by decide) (by decide)).symm (ne 0 8 (by decide) (by decide)).symm (ne 0 9 (by decide) (by decide)).symm (ne 0 10 (by decide) (by decide)).symm fun q hq => (hz q hq).1
    have RD := all_rest (I := I) (io := o) (oO := listOf (ord.map fun i : Nat => Value.int (i : Int) (tks i)).toArray nO) (oa := o2) (ob := o1) (oD := listOf ys.toArray nD) (ox1 := tabObj tb1) (ox2 := tabObj tc) (hnI _ (.tail _ (.head _))).symm (ne 1 11 (by decide) (by decide)).symm (ne 1 6 (by decide) (by decide)).symm (ne 1 7 (by decide) (by decide)).symm (ne 1 8 (by decide) (by decide)).symm (ne 1 9 (by decide) (by decide)).symm (ne 1 10 (by decide) (by decide)).symm fun q hq => (hz q hq).2.1
    have R70 := all_rest (I := I) (io := o) (oO := listOf (ord.map fun i : Nat => Value.int (i : Int) (tks i)).toArray nO) (oa := o2) (ob := o1) (oD := listOf ys.toArray nD) (ox1 := tabObj tb1) (ox2 := tabObj tc) (hnI _ (.tail _ (.tail _ (.head _)))).symm (ne 2 11 (by decide) (by decide)).symm (ne 2 6 (by decide) (by decide)).symm (ne 2 7 (by decide) (by decide)).symm (ne 2 8 (by decide) (by decide)).symm (ne 2 9 (by decide) (by decide)).symm (ne 2 10 (by decide) (by decide)).symm fun q hq => (hz q hq).2.2.1
    have RTO := all_rest (I := I) (io := o) (oO := listOf (ord.map fun i : Nat => Value.int (i : Int) (tks i)).toArray nO) (oa := o2) (ob := o1) (oD := listOf ys.toArray nD) (ox1 := tabObj tb1) (ox2 := tabObj tc) (hnI _ (.tail _ (.tail _ (.tail _ (.head _))))).symm (ne 3 11 (by decide) (by decide)).symm (ne 3 6 (by decide) (by decide)).symm (ne 3 7 (by decide) (by decide)).symm (ne 3 8 (by decide) (by decide)).symm (ne 3 9 (by decide) (by decide)).symm (ne 3 10 (by decide) (by decide)).symm fun q hq => (hz q hq).2.2.2.1
    have RTU := all_rest (I := I) (io := o) (oO := listOf (ord.map fun i : Nat => Value.int (i : Int) (tks i)).toArray nO) (oa := o2) (ob := o1) (oD := listOf ys.toArray nD) (ox1 := tabObj tb1) (ox2 := tabObj tc) (hnI _ (.tail _ (.tail _ (.tail _ (.tail _ (.head _)))))).symm (ne 4 11 (by decide) (by decide)).symm (ne 4 6 (by decide) (by decide)).symm (ne 4 7 (by decide) (by decide)).symm (ne 4 8 (by decide) (by decide)).symm (ne 4 9 (by decide) (by decide)).symm (ne 4 10 (by decide) (by decide)).symm fun q hq => (hz q hq).2.2.2.2.1
    have RPL := all_rest (I := I) (io := o) (oO := listOf (ord.map fun i : Nat => Value.int (i : Int) (tks i)).toArray nO) (oa := o2) (ob := o1) (oD := listOf ys.toArray nD) (ox1 := tabObj tb1) (ox2 := tabObj tc) (hnI _ (.tail _ (.tail _ (.tail _ (.tail _ (.tail _ (.head _))))))).symm (ne 5 11 (by decide) (by decide)).symm (ne 5 6 (by decide) (by decide)).symm (ne 5 7 (by decide) (by decide)).symm (ne 5 8 (by decide) (by decide)).symm (ne 5 9 (by decide) (by decide)).symm (ne 5 10 (by decide) (by decide)).symm fun q hq => (hz q hq).2.2.2.2.2
    clear ne nd
    k_steps
    refine Halt.go ?_
    rename News _ _ _ _ => N2
    rename Fr _ _ _ _ => F2
    have rl := run_len hrun
    have tl : (ord.take i).length ≤ 20 := by rw [List.length_take]; omega
    have five := (run_turns hd14 hrun fun a ha => hordlt a (List.mem_of_mem_take ha)).five.1
    have hpl : ps.length ≤ 5 := by rw [← List.length_map (f := (·.b)), hstk]; exact five
    have N3 : News h₀ L _ ((p, pileObj d (ps.map fun q => .ref q.a) np1) :: (d, iniD w tn (.int 0 210)) :: (70, tabObj tb9) :: (TO, listOf toldV.toArray nTo) :: (TU, listOf turnV.toArray nTu) :: (PL, listOf placeV.toArray nPl9) :: (I, o) :: (O, listOf (ord.map fun i : Nat => Value.int (i : Int) (tks i)).toArray nO) :: (L + 1 + 1, o2) :: (L + 1, o1) :: (D, listOf ys.toArray nD) :: (107, tabObj tb1) :: (227, tabObj tc) :: pcsOf pz) :=
      nw_cons N2 (.tail _ (.tail _ (.head _))) <| nw_cons N2 (.tail _ (.tail _ (.tail _ (.head _)))) <| nw_cons N2 (.tail _ (.tail _ (.tail _ (.tail _ (.head _))))) <| nw_cons N2 (.tail _ (.tail _ (.tail _ (.tail _ (.tail _ (.head _)))))) <| nw_cons N2 (.tail _ (.tail _ (.tail _ (.tail _ (.tail _ (.tail _ (.head _))))))) <| nw_cons N2 (.tail _ (.tail _ (.tail _ (.tail _ (.tail _ (.tail _ (.tail _ (.head _)))))))) <| nw_cons N2 (.head _) <| nw_cons N2 (.tail _ (.head _)) <| fun r hr => N2 r (.tail _ (.tail _ (.tail _ (.tail _ (.tail _ (.tail _ (.tail _ (.tail _ hr))))))))
    have mk (x : Str) (r : Option Value) (a1 : (x == Str.ofString "name") = false) (a2 : (x == Str.ofString "lack") = false) (a3 : (x == Str.ofString "mark") = false) (hx : m x = r) : m₁ x = r := by rw [hm1 x a1 a2 a3]; exact hx
    refine tk (ps := ps) (rest := (I, o) :: (O, listOf (ord.map fun i : Nat => Value.int (i : Int) (tks i)).toArray nO) :: (L + 1 + 1, o2) :: (L + 1, o1) :: (D, listOf ys.toArray nD) :: (107, tabObj tb1) :: (227, tabObj tc) :: pcsOf pz) (ys := ys) (ds := ds) (D := D) (nD := nD) (o1 := o1) (o2 := o2) (k := k) (t := tks k) B F2 KX N3 T (if_pos rfl) (m_ne' (by decide) (mk _ _ (by decide) (by decide) (by decide) hp)) (m_ne' (by decide) (mk _ _ (by decide) (by decide) (by decide) htu)) (m_ne' (by decide) (mk _ _ (by decide) (by decide) (by decide) hto)) n5 RP RD R70 RTO RTU RPL (by omega)
      (fun q hq => .tail _ (.tail _ (.tail _ (.tail _ (.tail _ (.tail _ (.tail _ (List.mem_map.mpr ⟨q, hpz q hq, rfl⟩)))))))) (.tail _ (.tail _ (.tail _ (.head _)))) hd1 (.tail _ (.tail _ (.head _))) hd2 (.tail _ (.tail _ (.tail _ (.tail _ (.head _))))) hys hkd hdl hd14 ?lens G1 htb1 ?hN ?hS hE
    case lens =>
      have := P1.length
      have := P2.length
      have := P3.length
      refine ⟨?_, ?_, ?_⟩ <;> omega
    case hN =>
      intro k' m' h' tk9 nTo' hcut hm' F9 N9
      have hall : ∀ b ∈ st.stk, b = true := by
        rcases hcut with ⟨e, _⟩ | ⟨_, tr, e, htr⟩
        · cases e
        · rw [← hstk, e]
          intro b hb
          obtain ⟨q, hq, rfl⟩ := List.mem_map.mp hb
          exact htr q hq
      refine ⟨h', gs, dr, tk9, m', _, rfl, F9, ?_, ?_, ⟨[], st.tolds ++ [none], st.trs, st.pls⟩, [], k', tb9, toldV ++ [Value.none], turnV, placeV, nTo', nTu, nPl9, pz, ?_, rfl, rfl, fun _ h => (nomatch h), P1.snoc (show PlaceIs none Value.none from rfl), P2, P3, hz, htb1, G1, ?_⟩
      · exact nw_cons N9 (.tail _ (.tail _ (.tail _ (.tail _ (.tail _ (.tail _ (.head _))))))) <| nw_cons N9 (.tail _ (.tail _ (.tail _ (.tail _ (.tail _ (.tail _ (.tail _ (.head _)))))))) <| nw_cons N9 (.head _) <| nw_cons N9 (.tail _ (.head _)) <| nw_cons N9 (.tail _ (.tail _ (.head _))) <| nw_cons N9 (.tail _ (.tail _ (.tail _ (.head _)))) <| nw_cons N9 (.tail _ (.tail _ (.tail _ (.tail _ (.head _))))) <| nw_cons N9 (.tail _ (.tail _ (.tail _ (.tail _ (.tail _ (.head _)))))) <| fun r hr => N9 r (.tail _ (.tail _ (.tail _ (.tail _ (.tail _ (.tail _ (.tail _ (.tail _ hr))))))))
      · exact ne_cons (hnI (p, pileObj d (ps.map fun q => .ref q.a) np1) (.head _)) <| ne_cons (hnI _ (.tail _ (.head _))) <| ne_cons (hnI _ (.tail _ (.tail _ (.head _)))) <| ne_cons (hnI (TO, listOf toldV.toArray nTo) (.tail _ (.tail _ (.tail _ (.head _))))) <| fun r hr => hnI r (.tail _ (.tail _ (.tail _ (.tail _ hr))))
      · rw [htake]
        exact .snoc hrun (by cases st; exact .none hall)
      · intro x a1 a2 a3
        rw [hm' x a1]
        refine (if_neg (fun e => by rw [e] at a3; simp at a3)).trans ?_
        exact hm1 x a1 a2 a3
    case hS =>
      intro ps' qq ps₂ t1 t2 t3 tb' k' m' h' gs9 dr9 tk9 nTo' nTu' nPl' hcut hqb hlen hfalse hm' F9 N9 hnew G9 htb9
      rcases hcut with ⟨_, a, tr, e, ha, htr⟩ | ⟨e, _⟩
      rotate_left
      · cases e
      have hf2 : ps₂.map (·.b) = List.replicate ps₂.length false := List.eq_replicate_iff.mpr ⟨List.length_map .., fun b hb => by
        obtain ⟨q, hq, rfl⟩ := List.mem_map.mp hb
        exact hfalse q hq⟩
      have hgrow : (ps' ++ [qq] ++ ps₂).map (·.b) = grow (ps'.map (·.b)) ps₂.length := by
        rw [List.map_append, List.map_append, hf2]
        simp [grow, hqb]
      have hstk2 : st.stk = ps'.map (·.b) ++ false :: tr.map (·.b) := by
        rw [← hstk, e, List.map_append, List.map_cons, ha]
      have hstep : Step ds k st ⟨grow (ps'.map (·.b)) ps₂.length, st.tolds ++ [some (grow (ps'.map (·.b)) ps₂.length)], st.trs ++ [ps'.map (·.b)], st.pls ++ [grow (ps'.map (·.b)) ps₂.length]⟩ := by
        cases st with
        | mk k0 k1 k2 k3 =>
          dsimp only at hstk2 ⊢
          rw [hstk2]
          refine .some (fun b hb => ?_) (by rw [List.length_map]; exact hlen)
          obtain ⟨q, hq, rfl⟩ := List.mem_map.mp hb
          exact htr q hq
      have e9 : pathOf ((ps' ++ [qq] ++ ps₂).map (·.b)) = pth (grow (ps'.map (·.b)) ps₂.length) := by rw [hgrow, pathOf_pth]
      have hpsz : ∀ q ∈ ps', q ∈ pz := fun q hq => hpz q (by rw [e]; exact List.mem_append_left _ hq)
      refine ⟨h', gs9, dr9, tk9, m', _, rfl, F9, ?_, ?_, ⟨grow (ps'.map (·.b)) ps₂.length, st.tolds ++ [some (grow (ps'.map (·.b)) ps₂.length)], st.trs ++ [ps'.map (·.b)], st.pls ++ [grow (ps'.map (·.b)) ps₂.length]⟩, ps' ++ [qq] ++ ps₂, k', tb', toldV ++ [Value.str (pathOf ((ps' ++ [qq] ++ ps₂).map (·.b))) t1], turnV ++ [Value.str (tpth (ps'.map (·.b))) t2], placeV ++ [Value.str (pathOf ((ps' ++ [qq] ++ ps₂).map (·.b))) t3], nTo', nTu', nPl', ps₂ ++ qq :: pz, ?_, hgrow, rfl, ?_, P1.snoc (show PlaceIs (some _) (Value.str _ _) from ⟨t1, by rw [e9]⟩), P2.snoc ⟨t2, rfl⟩, P3.snoc ⟨t3, by rw [e9]⟩, ?_, htb9, G9, ?_⟩
      · refine nw_cons N9 (.tail _ (.tail _ (.tail _ (.tail _ (.tail _ (.tail _ (List.mem_append_right _ (.tail _ (.head _))))))))) <| nw_cons N9 (.tail _ (.tail _ (.tail _ (.tail _ (.tail _ (.tail _ (List.mem_append_right _ (.tail _ (.tail _ (.head _)))))))))) <| nw_cons N9 (.head _) <| nw_cons N9 (.tail _ (.head _)) <| nw_cons N9 (.tail _ (.tail _ (.head _))) <| nw_cons N9 (.tail _ (.tail _ (.tail _ (.head _)))) <| nw_cons N9 (.tail _ (.tail _ (.tail _ (.tail _ (.head _))))) <| nw_cons N9 (.tail _ (.tail _ (.tail _ (.tail _ (.tail _ (.head _)))))) <| nw_cons N9 (.tail _ (.tail _ (.tail _ (.tail _ (.tail _ (.tail _ (List.mem_append_right _ (.tail _ (.tail _ (.tail _ (.head _))))))))))) <| nw_cons N9 (.tail _ (.tail _ (.tail _ (.tail _ (.tail _ (.tail _ (List.mem_append_right _ (.tail _ (.tail _ (.tail _ (.tail _ (.head _)))))))))))) <| nw_cons N9 (.tail _ (.tail _ (.tail _ (.tail _ (.tail _ (.tail _ (List.mem_append_right _ (.tail _ (.tail _ (.tail _ (.tail _ (.tail _ (.head _))))))))))))) <| nw_cons N9 (.tail _ (.tail _ (.tail _ (.tail _ (.tail _ (.tail _ (List.mem_append_right _ (.tail _ (.tail _ (.tail _ (.tail _ (.tail _ (.tail _ (.head _)))))))))))))) <| nw_cons N9 (.tail _ (.tail _ (.tail _ (.tail _ (.tail _ (.tail _ (List.mem_append_right _ (.tail _ (.tail _ (.tail _ (.tail _ (.tail _ (.tail _ (.tail _ (.head _))))))))))))))) <| fun r hr => ?_
        rw [pcsOf, List.map_append] at hr
        rcases List.mem_append.mp hr with hr | hr
        · exact N9 _ (.tail _ (.tail _ (.tail _ (.tail _ (.tail _ (.tail _ (List.mem_append_left _ hr)))))))
        rcases List.mem_cons.mp hr with rfl | hr
        · exact N9 _ (.tail _ (.tail _ (.tail _ (.tail _ (.tail _ (.tail _ (List.mem_append_right _ (.head _))))))))
        · exact N9 _ (.tail _ (.tail _ (.tail _ (.tail _ (.tail _ (.tail _ (List.mem_append_right _ (.tail _ (.tail _ (.tail _ (.tail _ (.tail _ (.tail _ (.tail _ (.tail _ hr)))))))))))))))
      · have hI2 : ∀ q ∈ qq :: ps₂, @Ne Nat q.a I := fun q hq => Nat.ne_of_gt ((hnew q hq).2 (I, o) (.head _))
        refine ne_cons (hnI (p, pileObj d (ps.map fun q => .ref q.a) np1) (.head _)) <| ne_cons (hnI _ (.tail _ (.head _))) <| ne_cons (hnI (70, tabObj tb9) (.tail _ (.tail _ (.head _)))) <| ne_cons (hnI (TO, listOf toldV.toArray nTo) (.tail _ (.tail _ (.tail _ (.head _))))) <| ne_cons (hnI (TU, listOf turnV.toArray nTu) (.tail _ (.tail _ (.tail _ (.tail _ (.head _)))))) <| ne_cons (hnI (PL, listOf placeV.toArray nPl9) (.tail _ (.tail _ (.tail _ (.tail _ (.tail _ (.head _))))))) <| ne_cons (hnI _ (.tail _ (.tail _ (.tail _ (.tail _ (.tail _ (.tail _ (.head _)))))))) <| ne_cons (hnI _ (.tail _ (.tail _ (.tail _ (.tail _ (.tail _ (.tail _ (.tail _ (.head _))))))))) <| ne_cons (hnI _ (.tail _ (.tail _ (.tail _ (.tail _ (.tail _ (.tail _ (.tail _ (.tail _ (.head _)))))))))) <| ne_cons (hnI _ (.tail _ (.tail _ (.tail _ (.tail _ (.tail _ (.tail _ (.tail _ (.tail _ (.tail _ (.head _))))))))))) <| ne_cons (hnI _ (.tail _ (.tail _ (.tail _ (.tail _ (.tail _ (.tail _ (.tail _ (.tail _ (.tail _ (.tail _ (.head _)))))))))))) <| fun r hr => ?_
        rw [pcsOf, List.map_append] at hr
        rcases List.mem_append.mp hr with hr | hr
        · obtain ⟨q, hq, rfl⟩ := List.mem_map.mp hr
          exact hI2 q (.tail _ hq)
        rcases List.mem_cons.mp hr with rfl | hr
        · exact hI2 qq (.head _)
        · exact hnI r (.tail _ (.tail _ (.tail _ (.tail _ (.tail _ (.tail _ (.tail _ (.tail _ (.tail _ (.tail _ (.tail _ hr)))))))))))
      · rw [htake]; exact .snoc hrun hstep
      · intro q hq
        rcases List.mem_append.mp hq with hq | hq
        · rcases List.mem_append.mp hq with hq | hq
          · exact List.mem_append_right _ (.tail _ (hpsz q hq))
          · rw [List.mem_singleton.mp hq]; exact List.mem_append_right _ (.head _)
        · exact List.mem_append_left _ hq
      · have hq6 : ∀ q ∈ qq :: ps₂, @Ne Nat q.a p ∧ @Ne Nat q.a d ∧ @Ne Nat q.a 70 ∧ @Ne Nat q.a TO ∧ @Ne Nat q.a TU ∧ @Ne Nat q.a PL := fun q hq => by
          have := (hnew q hq).1
          exact ⟨Nat.ne_of_gt this.1, Nat.ne_of_gt this.2.1, Nat.ne_of_gt this.2.2.1, Nat.ne_of_gt this.2.2.2.1, Nat.ne_of_gt this.2.2.2.2.1, Nat.ne_of_gt this.2.2.2.2.2⟩
        intro q hq
        rcases List.mem_append.mp hq with hq | hq
        · exact hq6 q (.tail _ hq)
        rcases List.mem_cons.mp hq with rfl | hq
        · exact hq6 _ (.head _)
        · exact hz q hq
      · intro x a1 a2 a3
        rw [hm' x a1 a2]
        refine (if_neg (fun e => by rw [e] at a3; simp at a3)).trans ?_
        exact hm1 x a1 a2 a3
end
end Mine
end

section
open PySem PySem.W PyProof.Rows
namespace Mine
local macro_rules | `(tactic| walk_at "no goal") => `(tactic| skip)
theorem freshY1 : True ∧ True := by
  k_with_none
  w_top off
  first | (walk1; done) | exact ⟨trivial, trivial⟩
end Mine
end

/-! part Y1 -/
section
open PySem PySem.W PySem.W.X PyProof.Rows PySem.Calls
set_option maxRecDepth 100000
set_option maxHeartbeats 4000000
namespace Mine
theorem slot_map_next : Slot "map" "__next__" "map.__next__" := .of (owner := "map") (n := "__next__") (by rw [typeLookup_type, builtinLookup_eq_fast]; kernel_rfl) (by decide +kernel) (by decide +kernel) (by decide +kernel) (by decide +kernel) (by rw [isSubtype_type]; kernel_rfl)
theorem entry_map_next : entryFor table "map.__next__" = some Builtin.«map.__next__» := entryFor_of_fast (by kernel_rfl)
theorem args_map_next (a : Value) : argsOk "map.__next__" ⟨[a], []⟩ := by unfold argsOk; kernel_rfl
theorem slot_map_iter : Slot "map" "__iter__" "map.__iter__" := .of (owner := "map") (n := "__iter__") (by rw [typeLookup_type, builtinLookup_eq_fast]; kernel_rfl) (by decide +kernel) (by decide +kernel) (by decide +kernel) (by decide +kernel) (by rw [isSubtype_type]; kernel_rfl)
theorem args_map_iter (a : Value) : argsOk "map.__iter__" ⟨[a], []⟩ := by unfold argsOk; kernel_rfl
theorem map_no_len : typeLookup (.type "map") "__len__" = pure none := by rw [typeLookup_type, builtinLookup_eq_fast]; kernel_rfl
theorem map_no_hint : typeLookup (.type "map") "__length_hint__" = pure none := by rw [typeLookup_type, builtinLookup_eq_fast]; kernel_rfl
/-- a map over one iterator -/
def IsMap (h : Heap) (M T I : Addr) (f : Value) : Prop := h.get? M = some { cls := .type "map", dict := none, data := .fields #[.ref T, f], slots := #[] } ∧ h.get? T = some ⟨.type "tuple", none, .seq #[.ref I] 0, #[]⟩
section
variable {prog : Program} {w : World} {A : Around} {E : Value → Shared → Prop} {s : Shared}
section
abbrev mapMade (l M T I : Addr) : List (Addr × Obj) := [(M, ⟨.type "map", none, .fields #[.ref T, .ref 194], #[]⟩), (T, ⟨.type "tuple", none, .seq #[.ref I] 0, #[]⟩), (I, ⟨.type "list_iterator", none, .fields #[.ref l, .int 0 0], #[]⟩)]
theorem fin_map {Q : Value → Shared → Prop} {l : Addr} {h' : Heap} {M T I : Addr} (fin : ∀ M T I h', Mem s.heap h' [] (mapMade l M T I) → Q (.ref M) { s with heap := h' }) (D : Mem s.heap h' [] (mapMade l M T I)) : Q (.ref M) { s with heap := h' } := fin M T I h' D
local macro_rules | `(tactic| x_close) => `(tactic| exact fin_map (by assumption) (by assumption))
theorem map_x {l : Addr} {vs : Array Value} {n : Nat} {Q : Value → Shared → Prop} (hl : s.heap.get? l = some ⟨.type "list", none, .seq vs n, #[]⟩)
    (fin : ∀ M T I h', Mem s.heap h' [] (mapMade l M T I) → Q (.ref M) { s with heap := h' }) :
    wpAny (model prog w) A (PySem.call (.type "map") [.ref 194, .ref l]) Q E s := by
  x_run
end
theorem map_made {h h' : Heap} {l M T I : Addr} (D : Mem h h' [] (mapMade l M T I)) : Stays h h' ∧ T ≠ I ∧ M ≠ I ∧ IsMap h' M T I (.ref 194) ∧ h'.IsListIter I l 0 ∧ h.get? I = none :=
  ⟨fun b o e => D.keep b o e (by simp [away]), Nat.ne_of_gt ((List.pairwise_cons.mp (List.pairwise_cons.mp D.ord).2).1 I (.head _)), Nat.ne_of_gt ((List.pairwise_cons.mp D.ord).1 I (.tail _ (.head _))),
    ⟨(D.nw _ (show (M, (⟨.type "map", none, .fields #[.ref T, .ref 194], #[]⟩ : Obj)) ∈ mapMade l M T I from .head _)).1, (D.nw _ (show (T, (⟨.type "tuple", none, .seq #[.ref I] 0, #[]⟩ : Obj)) ∈ mapMade l M T I from .tail _ (.head _))).1⟩,
    ⟨_, (D.nw _ (show (I, (⟨.type "list_iterator", none, .fields #[.ref l, .int 0 0], #[]⟩ : Obj)) ∈ mapMade l M T I from .tail _ (.tail _ (.head _)))).1, rfl, rfl⟩, (D.nw _ (show (I, (⟨.type "list_iterator", none, .fields #[.ref l, .int 0 0], #[]⟩ : Obj)) ∈ mapMade l M T I from .tail _ (.tail _ (.head _)))).2⟩
theorem map_next_item {M T I l : Addr} {f : Value} {i : Nat} {items : Array Value} {x y : Value} {Q : Option Value → Shared → Prop} (hm : IsMap s.heap M T I f) (hit : s.heap.IsListIter I l i) (hl : s.heap.IsList l items) (hx : items[i]? = some x) (hM : M ≠ I)
    (hcall : ∀ h' (Q' : Value → Shared → Prop) E', Heap.SameBut I s.heap h' → (∀ h'' tk, Stays h' h'' → Q' y { s with heap := h'', toks := tk }) → wpAny (model prog w) A.in1 (PySem.call f [x]) Q' E' { s with heap := h' })
    (hQ : ∀ h' h'' tk, h'.IsListIter I l (i + 1) → Heap.SameBut I s.heap h' → Stays h' h'' → Q (some y) { s with heap := h'', toks := tk }) :
    wpAny (model prog w) A (pyNext (.ref M)) Q E s := by
  have hTy : s.TypeIs (.ref M) "map" := ⟨_, hm.1, rfl⟩
  unfold pyNext
  refine wpAny_bind (wpAny_attempt (wpAny_callSpecial?_slot (name := Str.ofString "__next__") hTy slot_map_next (wpAny_call_entry slot_map_next hTy entry_map_next ?_ (args_map_next _))))
  show wpAny _ _ (field (.ref M) 0 >>= _) _ _ s
  refine wpAny_bind (wpAny_field hm.1 rfl (x := .ref T) rfl ?_)
  show wpAny _ _ (seqItems? (.ref T) >>= _) _ _ s
  refine wpAny_bind (wpAny_seqItems hm.2 rfl ?_)
  dsimp only
  simp only [← Array.forIn_toList, List.forIn_cons, List.forIn_nil]
  refine wpAny_bind (wpAny_bind (wpAny_bind (wpAny_holding (wpAny_nextOf_list_item hit hl hx fun h' hit' hs' => ?_))))
  refine wpAny_pure ?_
  dsimp only
  refine wpAny_pure ?_
  show wpAny _ _ (field (.ref M) 1 >>= _) _ _ _
  refine wpAny_bind (wpAny_field (s := { s with heap := h' }) (hs'.extBut _ _ hM hm.1) rfl (x := f) rfl ?_)
  refine wpAny_bind (wpAny_holding (hcall h' _ _ hs' fun h'' tk hst => ?_))
  refine wpAny_bind (wpAny_letGo ?_)
  exact wpAny_pure ⟨y, rfl, wpAny_pure (hQ h' h'' tk hit' hs' hst)⟩
theorem map_next_end {M T I l : Addr} {f : Value} {i : Nat} {items : Array Value} {Q : Option Value → Shared → Prop} (hh : A.handled = none) (hm : IsMap s.heap M T I f) (hit : s.heap.IsListIter I l i) (hl : s.heap.IsList l items) (hx : items[i]? = none)
    (hQ : ∀ h', Heap.ExtBut I s.heap h' → Q none { s with heap := h' }) :
    wpAny (model prog w) A (pyNext (.ref M)) Q E s := by
  have hTy : s.TypeIs (.ref M) "map" := ⟨_, hm.1, rfl⟩
  unfold pyNext
  refine wpAny_bind (wpAny_attempt (wpAny_callSpecial?_slot (name := Str.ofString "__next__") hTy slot_map_next (wpAny_call_entry slot_map_next hTy entry_map_next ?_ (args_map_next _))))
  show wpAny _ _ (field (.ref M) 0 >>= _) _ _ s
  refine wpAny_bind (wpAny_field hm.1 rfl (x := .ref T) rfl ?_)
  show wpAny _ _ (seqItems? (.ref T) >>= _) _ _ s
  refine wpAny_bind (wpAny_seqItems hm.2 rfl ?_)
  dsimp only
  simp only [← Array.forIn_toList, List.forIn_cons, List.forIn_nil]
  refine wpAny_bind (wpAny_bind (wpAny_bind (wpAny_holding (wpAny_nextOf_list_end hh hit hl hx fun h' e he hx' => ?_))))
  obtain ⟨o, ho, hc⟩ := hx'
  refine wpAny_bind (wpAny_isInstance (T := "StopIteration") (b := true) ⟨o, ho, hc⟩ isSubtype_stop ?_)
  exact wpAny_pure (hQ _ he)
theorem entry_map_iter : entryFor table "map.__iter__" = some Builtin.«dict_keyiterator.__iter__» :=
  entryFor_alias (id' := "dict_keyiterator.__iter__") (by kernel_rfl) (by first | rfl | decide +kernel | (unfold String.splitOn; simp +decide [String.splitOnAux])) (by decide +kernel) (by kernel_rfl)
theorem map_iter {M T I : Addr} {f : Value} {Q : Value → Shared → Prop} (hm : IsMap s.heap M T I f) (h : Q (.ref M) s) : wpAny (model prog w) A (pyIter (.ref M)) Q E s := by
  have hT : s.TypeIs (.ref M) "map" := ⟨_, hm.1, rfl⟩
  refine wpAny_pyIter_slot hT slot_map_iter (wpAny_call_entry slot_map_iter hT entry_map_iter ?_ (args_map_iter _))
  show wpAny _ _ (ret (.ref M)) _ _ s
  exact wpAny_pure ⟨_, rfl, "map", _, hT, slot_map_next.lookup, h⟩
/-- walking a map whose function gives back what it gets -/
theorem map_walks {h1 : Heap} {M T I l : Addr} {f : Value} {vs : Array Value} (hh : A.handled = none) (hm : IsMap h1 M T I f) (hl : h1.IsList l vs) (hM : M ≠ I) (hT : T ≠ I) (hlI : l ≠ I)
    (hcall : ∀ x, x ∈ vs.toList → ∀ (s : Shared) (Q' : Value → Shared → Prop) E', (∀ b o, b ≠ I → h1.get? b = some o → s.heap.get? b = some o) → (∀ h'' tk, Stays s.heap h'' → Q' x { s with heap := h'', toks := tk }) → wpAny (model prog w) A.in1 (PySem.call f [x]) Q' E' s) :
    WalksS prog w A M (I :: List.range h1.objs.size) [I] (fun a b => b = a) vs.size (fun i v => vs[i]? = some v) (fun i s => s.heap.IsListIter I l i ∧ ∀ b o, b ≠ I → h1.get? b = some o → s.heap.get? b = some o) where
  sub := fun b hb => by rw [List.mem_singleton.mp hb]; exact .head _
  grefl := fun _ => rfl
  gtrans := fun _ _ _ h1 h2 => h2.trans h1
  frame := fun i s h' tk st _ hk => ⟨st.1.at fun o e => hk I (.head _) o e, fun b o hb e => hk b (.tail _ (List.mem_range.mpr (Heap.lt_size e))) o (st.2 b o hb e)⟩
  item := fun i s Q E hi st hQ => by
    have hm' : IsMap s.heap M T I f := ⟨st.2 _ _ hM hm.1, st.2 _ _ hT hm.2⟩
    have hl' : s.heap.IsList l vs := hl.at fun o e => st.2 l o hlI e
    refine wpAny_with_toks (Nat.le_refl s.toks) (map_next_item hm' st.1 hl' (x := vs[i]) (y := vs[i]) (Array.getElem?_eq_getElem hi) hM (fun h' Q' E' hs' hq => ?_) fun h' h'' tk hit hs hst htk => ?_)
    · exact hcall vs[i] (by simp) _ Q' E' (fun b o hb e => hs'.extBut b o hb (st.2 b o hb e)) hq
    · exact hQ _ _ (Array.getElem?_eq_getElem hi) ⟨hit.at fun o e => hst _ _ e, fun b o hb e => hst _ _ (hs.extBut b o hb (st.2 b o hb e))⟩ ⟨fun b o hb e => hst _ _ (hs.extBut b o (fun h => hb (by rw [h]; exact .head _)) e), rfl, rfl, rfl, htk⟩
  done := fun s Q E st hQ => by
    have hm' : IsMap s.heap M T I f := ⟨st.2 _ _ hM hm.1, st.2 _ _ hT hm.2⟩
    have hl' : s.heap.IsList l vs := hl.at fun o e => st.2 l o hlI e
    refine map_next_end hh hm' st.1 hl' (by simp) fun h' he => ?_
    exact hQ _ ⟨fun b o hb e => he b o (fun h => hb (by rw [h]; exact .head _)) e, rfl, rfl, rfl, Nat.le_refl _⟩
  self := fun i s Q E st hQ => map_iter ⟨st.2 _ _ hM hm.1, st.2 _ _ hT hm.2⟩ hQ
theorem collect_map {J : Addr} {fp wr : List Addr} {G : Array GenState → Array GenState → Prop} {n : Nat} {P : Nat → Value → Prop} {St : Nat → Shared → Prop} {Q : List Value → Shared → Prop} (W : WalksS prog w A.in1 J fp wr G n P St) (hT : ∀ i s, St i s → s.TypeIs (.ref J) "map") (hst : St 0 s) (hfp : ∀ b ∈ fp, b < s.heap.objs.size) (hJ : J < s.heap.objs.size)
    (hQ : ∀ s' acc, Moved wr G s s' → ItemsOf P acc n → Q acc.toList s') (hn : n ≤ sizeLine) : wpAny (model prog w) A (collect (.ref J)) Q E s := by
  have hSf : s.heap.objs.size ∉ fp := fun hm => Nat.lt_irrefl _ (hfp _ hm)
  have hSI : s.heap.objs.size ≠ J := Nat.ne_of_gt hJ
  unfold collect
  refine wpAny_bind (wpAny_runValue (codeAny_builtin F.entry_proto_collect ?_))
  rw [Around.under_plainId F.plain_proto_collect _]
  show wpAny _ A.in1 (newList [] >>= fun l => again (.builtin "list.__iadd__" ⟨[l, .ref J], []⟩)) _ _ s
  refine wpAny_bind (wpAny_newObj_type ?_)
  refine wpAny_pure ⟨plainId_quiet F.plain_list_iadd _, codeAny_builtin F.entry_list_iadd ?_⟩
  rw [Around.under_plainId F.plain_list_iadd _]
  have old : ∀ b o, s.heap.get? b = some o → (s.heap.push { cls := .type "list", data := .seq ([] : List Value).toArray }).get? b = some o := fun b o e => Heap.get?_push_of_some _ e
  have hst₁ := W.frame 0 s (s.heap.push { cls := .type "list", data := .seq ([] : List Value).toArray }) s.toks hst (Nat.le_refl _) fun b _ o e => old b o e
  show wpAny _ A.in1 (Builtin.List.listExtendWith (.ref s.heap.objs.size) (.ref J) (.ref s.heap.objs.size)) _ _ _
  unfold Builtin.List.listExtendWith
  refine wpAny_bind (wpAny_typeOf (hT 0 _ hst₁) ?_)
  have e1 : Builtin.List.listSameRef (.ref s.heap.objs.size) (.ref J) = false := by simp [Builtin.List.listSameRef, hSI]
  have e2 : (Value.type "map" == Value.type "list") = false := by decide
  have e3 : (Value.type "map" == Value.type "tuple") = false := by decide
  simp only [e1, e2, e3, Bool.or_false, Bool.false_eq_true, if_false]
  refine wpAny_bind (W.self 0 _ _ _ hst₁ ?_)
  refine wpAny_bind (wpAny_holding ?_)
  unfold Builtin.List.listLengthHint
  refine wpAny_bind (wpAny_specialOf (hT 0 _ hst₁) map_no_len ?_)
  show wpAny _ A.in1 (specialOf (Value.ref J) (Str.ofString "__length_hint__") >>= _) _ _ _
  refine wpAny_bind (wpAny_specialOf (hT 0 _ hst₁) map_no_hint ?_)
  refine wpAny_pure ?_
  have hS₁ : (s.heap.push { cls := .type "list", data := .seq ([] : List Value).toArray }).get? s.heap.objs.size = some { cls := .type "list", data := .seq ([] : List Value).toArray } := Heap.get?_push_size _ rfl
  have fin : ∀ (h₂ : Heap) (c : Nat), h₂.get? s.heap.objs.size = some { cls := .type "list", dict := none, data := .seq #[] c, slots := #[] } → (∀ b o, s.heap.get? b = some o → h₂.get? b = some o) →
      codeAny (model prog w) A (.builtin "list.extend.loop" ⟨[.ref s.heap.objs.size, .ref J, .ref s.heap.objs.size], []⟩) (fun r s' => match r with
        | .ok (.ret v) => wpAny (model prog w) A (match v with | .ref a => (do match (← load a).data with | .seq xs _ => pure xs.toList | _ => unsupported "internal:collect") | _ => unsupported "internal:collect") Q E s'
        | .ok _ => False | .error e => E e s') { s with heap := h₂ } := fun h₂ c hS₂ hk => by
    refine codeAny_extend_loopS W hn _ hSf _ n 0 _ _ _ rfl (Nat.zero_le _) (W.frame 0 s _ s.toks hst (Nat.le_refl _) fun b _ o e => hk b o e) hS₂ (ItemsOf.nil P) fun s' acc' c' hm hS' hacc => ?_
    show wpAny _ A (load s.heap.objs.size >>= _) _ _ s'
    refine wpAny_bind (wpAny_load hS' ?_)
    refine wpAny_pure (hQ s' acc' ⟨fun b o hb e => hm.heap b o (fun h => ?_) (hk b o e), hm.gens, hm.drawn, hm.os, hm.toks⟩ hacc)
    rcases List.mem_cons.mp h with rfl | h
    · exact Nat.lt_irrefl _ (Heap.lt_size e)
    · exact hb h
  rw [if_pos (by rfl)]
  refine wpAny_bind (wpAny_rule ?_)
  refine wpAny_bind ?_
  show wpAny _ A.in1 (updateSeq s.heap.objs.size (·.push .none) >>= fun _ => updateSeq s.heap.objs.size (·.pop)) _ _ _
  refine wpAny_bind (wpAny_updateSeq hS₁ rfl ?_)
  have hS₂ := Heap.get?_update_self (Obj.mapSeq (·.push Value.none)) hS₁ rfl
  refine wpAny_updateSeq hS₂ rfl ?_
  have hS₃ := Heap.get?_update_self (Obj.mapSeq (·.pop)) hS₂ rfl
  refine wpAny_pure ⟨plainId_quiet F.plain_extend_loop _, fin _ _ hS₃ fun b o e => ?_⟩
  have hb : s.heap.objs.size ≠ b := Nat.ne_of_gt (Heap.lt_size e)
  exact (Heap.get?_update_other _ _ hb).trans ((Heap.get?_update_other _ _ hb).trans (old b o e))
theorem code_tuple_map {J : Addr} {fp wr : List Addr} {G : Array GenState → Array GenState → Prop} {n : Nat} {P : Nat → Value → Prop} {St : Nat → Shared → Prop} {Q : Value → Shared → Prop} (W : WalksS prog w A.in1.in1 J fp wr G n P St) (hT : ∀ i s, St i s → s.TypeIs (.ref J) "map") (hst : St 0 s) (hfp : ∀ b ∈ fp, b < s.heap.objs.size) (hJ : J < s.heap.objs.size) (hsz : n ≤ sizeLine)
    (h : ∀ s' acc, Moved wr G s s' → ItemsOf P acc n → Q (.ref s'.heap.objs.size) { s' with heap := s'.heap.push { cls := .type "tuple", data := .seq acc } }) :
    codeAny (model prog w) A (.call (.builtin "tuple.__new__") ⟨[.type "tuple", .ref J], []⟩) (wants Q E) s := by
  refine codeAny_of_tree ?_
  show wpAny _ A.in1 (do checkBuiltinCall "tuple.__new__" ⟨[.type "tuple", .ref J], []⟩; again (.builtin "tuple.__new__" ⟨[.type "tuple", .ref J], []⟩)) _ _ s
  refine wpAny_bind (wpAny_of_eq (F.newCall_tuple_1 _) (wpAny_pure ⟨plainId_quiet F.plain_tuple_new _, codeAny_builtin F.entry_tuple_new ?_⟩))
  rw [Around.under_plainId F.plain_tuple_new _]
  have hsub := sub_tuple_self
  have hinit := init_tuple_lookup
  have hmh := madeHere_tuple
  have hTI := hT 0 s hst
  wp_walk using wpAny_typeOf hTI, collect_map (hn := hsz) W hT hst hfp hJ
  intro s' acc hm hacc
  show wpAny _ _ (Builtin.Tuple.tupleExact acc.toList.toArray >>= fun v => ret v) _ _ _
  unfold Builtin.Tuple.tupleExact
  refine wpAny_bind (wpAny_newObj_type ?_ (by show acc.toList.toArray.size ≤ sizeLine; simp only [Array.toArray_toList]; rw [hacc.1]; exact hsz))
  refine wpAny_pure ?_
  have e : acc.toList.toArray = acc := by simp
  rw [e]
  exact h s' acc hm hacc
theorem tuple_map {M T I l : Addr} {f : Value} {vs : Array Value} {Q : Value → Shared → Prop} (hh : A.handled = none) (hm : IsMap s.heap M T I f) (hit : s.heap.IsListIter I l 0) (hl : s.heap.IsList l vs) (hM : M ≠ I) (hT : T ≠ I) (hlI : l ≠ I) (hsz : vs.size ≤ 100)
    (hcall : ∀ x, x ∈ vs.toList → ∀ (s' : Shared) (Q' : Value → Shared → Prop) E', (∀ b o, b ≠ I → s.heap.get? b = some o → s'.heap.get? b = some o) → (∀ h'' tk, Stays s'.heap h'' → Q' x { s' with heap := h'', toks := tk }) → wpAny (model prog w) A.in1.in1.in1.in1 (PySem.call f [x]) Q' E' s')
    (h : ∀ D h' tk, (D = I ∨ s.heap.get? D = none) → h'.get? D = some ⟨.type "tuple", none, .seq vs 0, #[]⟩ → (∀ b o, b ≠ I → s.heap.get? b = some o → h'.get? b = some o) → Q (.ref D) { s with heap := h', toks := tk }) :
    wpAny (model prog w) A (PySem.call (.type "tuple") [.ref M]) Q E s := by
  have W := map_walks (A := A.in1.in1.in1) (h1 := s.heap) (w := w) (prog := prog) hh hm hl hM hT hlI hcall
  have hMt : ∀ (i : Nat) (s₁ : Shared), (s₁.heap.IsListIter I l i ∧ ∀ b o, b ≠ I → s.heap.get? b = some o → s₁.heap.get? b = some o) → s₁.TypeIs (.ref M) "map" := fun i s₁ st => ⟨_, st.2 _ _ hM hm.1, rfl⟩
  have hIlt : I < s.heap.objs.size := by obtain ⟨_, e, _⟩ := hit; exact Heap.lt_size e
  refine callType_codes (Q₁ := fun obj s₁ => s₁.TypeIs obj "tuple" ∧ Q obj s₁) F.called_tuple (F.typeCall_tuple_1 _) F.entry_object_init
    (code_tuple_map W hMt ⟨hit, fun _ _ _ e => e⟩ (fun b hb => ?_) (Heap.lt_size hm.1) (by rw [sizeLine_eq]; omega) fun s' acc hmv hacc => ⟨⟨_, Heap.get?_push_size _ rfl, rfl⟩, ?_⟩) fun obj s₁ h₁ => ?_
  · rcases List.mem_cons.mp hb with rfl | hb
    · exact hIlt
    · exact List.mem_range.mp hb
  · have e : acc = vs := by
      apply Array.ext
      · exact hacc.1
      · intro i h1 h2
        have : vs[i]? = some acc[i] := hacc.2 i acc[i] (Array.getElem?_eq_getElem h1)
        rw [Array.getElem?_eq_getElem h2] at this
        exact (Option.some.inj this).symm
    subst e
    obtain ⟨sh, sg, sd, st, so⟩ := s'
    obtain ⟨m1, m2, m3, m4, m5⟩ := hmv
    dsimp only at m1 m2 m3 m4 m5 ⊢
    subst m2 m3 m4
    have old : ∀ b o, b ≠ I → s.heap.get? b = some o → (sh.push { cls := .type "tuple", data := .seq acc }).get? b = some o := fun b o hb e => Heap.get?_push_of_some _ (m1 b o (fun h => hb (List.mem_singleton.mp h)) e)
    refine h sh.objs.size _ _ ?_ (Heap.get?_push_size _ rfl) old
    by_cases hI : sh.objs.size = I
    · exact .inl hI
    · cases e : s.heap.get? sh.objs.size with
      | none => exact .inr rfl
      | some o =>
        have := m1 sh.objs.size o (fun h => hI (List.mem_singleton.mp h)) e
        exact absurd (Heap.lt_size this) (Nat.lt_irrefl _)
  · exact ⟨h₁.1, F.args_object_init_2 obj _, object_init_meets F.called_tuple.init.lookup F.called_tuple.made (by decide) prog w A.in1 _ s₁ ⟨h₁.1, rfl, h₁.2⟩⟩
end
end Mine
end

section
open PySem PySem.W PyProof.Rows
namespace Mine
local macro_rules | `(tactic| walk_at "no goal") => `(tactic| skip)
theorem freshCO : True ∧ True := by
  k_with_none
  w_top off
  first | (walk1; done) | exact ⟨trivial, trivial⟩
end Mine
end

/-! part CO -/
section
open PySem PySem.W PySem.W.X PyProof.Rows PySem.Calls
set_option maxRecDepth 100000
set_option maxHeartbeats 4000000
namespace Mine
section
variable {prog : Program} {w : World} {A : Around} {E : Value → Shared → Prop} {s : Shared} {env : Env}
end
end Mine
end

section
open PySem PySem.W PyProof.Rows
namespace Mine
local macro_rules | `(tactic| walk_at "no goal") => `(tactic| skip)
theorem freshCA : True ∧ True := by
  k_with_none
  w_top off
  first | (walk1; done) | exact ⟨trivial, trivial⟩
end Mine
end

/-! part CA -/
section
open PySem PySem.W PySem.W.X PyProof.Rows PySem.Calls
set_option maxRecDepth 100000
set_option maxHeartbeats 4000000
namespace Mine
section
variable {prog : Program} {w : World} {A : Around} {E : Value → Shared → Prop} {s : Shared} {env : Env} {h₀ : Heap}
/-- a comprehension of lists that goes straight into a local -/
theorem assign_compO {elt iter : Expr} {x y : Str} {px py : Pos} {ifs : List Expr} {scope : Scope} {cl : List (Str × Addr)} {pos spos : Pos} {m : Str → Option Value} {Q : Flow → Shared → Prop} (p : Value → Bool) (G : Value → Array Value → Prop)
    (hsw : swapsWith (.ListComp elt [⟨.Name x px, iter, ifs, 0⟩] scope pos) (some (.Name y py)) spos.line env = pure true)
    (hclos : closureFor scope env = pure cl) (hcell : ∀ z ∈ scope.names, z.2 ≠ .cell) (hkind : scope.kind = .function)
    (hnames : ∀ z ∈ scope.names, z.2 = .local → scope.names.lookup z.1 = some .local) (hx : scope.names.lookup x = some .local)
    (hy : env.kindOf y = some .local) (hp : (env.scope.kind == .class || (env.scope.kind == .module && env.locals != env.globals)) = false)
    (h : wpAny (model prog w) A (eval iter env) (fun xv s₁ => wpAny (model prog w) A (pyIter xv) (fun it s₂ => ∃ I fp wr n P St, it = .ref I ∧ Walks prog w A I fp wr n P St ∧ n ≤ sizeLine ∧ (∀ i h, St i h → ∀ b ∈ wr, ∃ o, h.get? b = some o) ∧ St 0 s₂.heap ∧ (∀ b ∈ fp, b < s₂.heap.objs.size) ∧
      QuietOnCO prog w A env scope cl x ifs elt wr P p G s₂ ∧ Fr h₀ env.locals s₂.heap m ∧ (∀ b ∈ wr, b ≠ env.locals ∧ h₀.get? b = none) ∧
      (∀ D h' tk ys (vs : List Value), s₂.heap.get? D = none → h'.IsList D ys → h'.PlainList D ys → vs.length = n → (∀ j v, vs[j]? = some v → P j v) → Paired (LstIs s₂.heap G h') (vs.filter p) ys.toList →
        (∀ y ∈ ys.toList, y ≠ .ref D) → (∀ b o, b ≠ env.locals → b ∉ wr → s₂.heap.get? b = some o → h'.get? b = some o) → Fr h₀ env.locals h' (fun z => if z = y then some (.ref D) else m z) → Q .next { s₂ with heap := h', toks := tk })) E s₁) E s)
    (hs : ∀ x, foldedSetIterable iter env x = pure x) :
    wpAny (model prog w) A (exec (.Assign [.Name y py] (.ListComp elt [⟨.Name x px, iter, ifs, 0⟩] scope pos) spos) env) Q E s := by
  rw [exec_Assign_Name_used _ _ _ _ hsw]
  refine wpAny_bind (wpAny_standAt (wpAny_bind ?_))
  show wpAny _ A (do let _ ← comprehension (.ListComp elt [⟨.Name x px, iter, ifs, 0⟩] scope pos) scope env _ (newList []) false (eval iter env) (some (assign (.Name y py) env))) _ _ s
  refine wpAny_bind (wpAny_mono (wpAny_comprehension_free (use := some (assign (.Name y py) env)) (Q := fun _ s' => Q .next s') rfl hs hclos hkind hnames
    (wpAny_mono h (fun xv s₁ h₁ => wpAny_mono h₁ (fun it s₂ h₂ => ?_) fun _ _ e => e) fun _ _ e => e)) (fun _ s' hq => wpAny_pure (wpAny_pure hq)) fun _ _ e => e)
  refine Classical.byContradiction fun hn9 => ?_
  obtain ⟨I, fp, wr, n, P, St, rfl, W, hsz, hlive, hst, hfp, hq, F, hwr, hQ⟩ := h₂
  refine hn9 ?_
  clear hn9
  refine comp_block_walkCO (RR := fun acc C => compPost (model prog w) A E (some (assign (.Name y py) env)) (fun _ s' => Q .next s') acc C) W hsz p G hlive hcell hkind hx hst hfp hq ?_
  intro D C h' tk m' ys vs hD hC hDC hn hl hpl hlen hP hF hnd hk
  show wpAny _ A (assign (.Name y py) env (.ref D)) _ _ _
  refine Classical.byContradiction fun hn9 => ?_
  obtain ⟨oL, eL1, eL2, hLo, eL3⟩ := id F.ns
  refine hn9 ?_
  clear hn9
  have hCL : C ≠ env.locals := fun e => by rw [e, hLo] at hC; cases hC
  have hDL : D ≠ env.locals := fun e => by rw [e, hLo] at hD; cases hD
  have hLw : env.locals ∉ wr := fun hm => (hwr _ hm).1 rfl
  have F' : Fr h₀ env.locals h' m := ⟨F.ns.at' fun o e => hk _ o hLw e, fun b o e => hk b o (fun hm => by rw [(hwr b hm).2] at e; cases e) (F.keep b o e), F.above⟩
  have hL₀ : h₀.get? env.locals = none := Heap.get?_none_of_le F'.above
  have hC₀ : h₀.get? C = none := by
    cases e : h₀.get? C with
    | none => rfl
    | some o => rw [F.keep _ _ e] at hC; cases hC
  refine wpAny_assign_Name (wpAny_storeName_local hy F'.ns (fun h₂ hn₂ hs₂ => ?_) hp)
  have F₂ : Fr h₀ env.locals h₂ (fun z => if z = y then some (.ref D) else m z) := ⟨hn₂, fun b o e => hs₂.extBut b o (fun q => by rw [q, hL₀] at e; cases e) (F'.keep b o e), F'.above⟩
  refine ⟨m', hn.sameBut hs₂ hCL, fun h'' hs'' => hQ D h'' _ ys vs hD ((hl.extBut hs₂.extBut hDL).extBut hs''.extBut hDC) ((hpl.extBut hs₂.extBut hDL).extBut hs''.extBut hDC) hlen hP ?_ ?_ (fun b o hbL hbw e => hs''.extBut b o (fun e2 => by rw [e2, hC] at e; cases e) (hs₂.extBut b o hbL (hk b o hbw e))) (F₂.change hs'' hCL hC₀)⟩
  · refine hF.mono fun _ _ hy => ?_
    refine Classical.byContradiction fun hn9 => ?_
    obtain ⟨T, its, rfl, h1, hTC, _, _, hlT, hG⟩ := hy
    refine hn9 ?_
    clear hn9
    exact ⟨T, its, rfl, h1, (hlT.extBut hs₂.extBut (fun e => by rw [e, hLo] at h1; cases h1)).extBut hs''.extBut hTC, hG⟩
  · intro y hy e
    refine Classical.byContradiction fun hn9 => ?_
    obtain ⟨_, T, _, e', _, _, _, hTD, _, _⟩ := Paired.right hF y hy
    refine hn9 ?_
    clear hn9
    rw [e] at e'; cases e'; exact hTD rfl
/-- the same over a tuple or a list -/
theorem assign_seqO {elt iter : Expr} {x y : Str} {px py : Pos} {ifs : List Expr} {scope : Scope} {cl : List (Str × Addr)} {pos spos : Pos} {m : Str → Option Value} {Q : Flow → Shared → Prop} {l : Addr} {vs : List Value} {p : Value → Bool} {G : Value → Array Value → Prop}
    (hh : A.handled = none) (F : Fr h₀ env.locals s.heap m) (hl : s.heap.IsTuple l vs.toArray ∨ s.heap.IsList l vs.toArray)
    (hsw : swapsWith (.ListComp elt [⟨.Name x px, iter, ifs, 0⟩] scope pos) (some (.Name y py)) spos.line env = pure true)
    (hclos : closureFor scope env = pure cl) (hcell : ∀ z ∈ scope.names, z.2 ≠ .cell) (hkind : scope.kind = .function)
    (hnames : ∀ z ∈ scope.names, z.2 = .local → scope.names.lookup z.1 = some .local) (hx : scope.names.lookup x = some .local)
    (hy : env.kindOf y = some .local) (hp : (env.scope.kind == .class || (env.scope.kind == .module && env.locals != env.globals)) = false) (hn : vs.length ≤ 1000)
    (hit : ∀ R : Value → Shared → Prop, R (.ref l) s → wpAny (model prog w) A (eval iter env) R E s)
    (htests : ∀ C v s₂ m₂ E', (∀ b o, s.heap.get? b = some o → b < C) → v ∈ vs → s₂.heap.Ns C m₂ → m₂ x = some v → Stays s.heap s₂.heap →
      wpAny (model prog w) A (forIn ifs true fun c r => if r = true then do let ok ← isTrue c (compEnvC scope cl C env) (eval c (compEnvC scope cl C env)); pure (ForInStep.yield ok) else pure (ForInStep.yield r))
          (fun ok s₃ => ok = p v ∧ Keeps s₂ s₃) E' s₂)
    (helt : ∀ C v s₂ m₂ E', (∀ b o, s.heap.get? b = some o → b < C) → v ∈ vs → p v = true → s₂.heap.Ns C m₂ → m₂ x = some v → Stays s.heap s₂.heap →
        wpAny (model prog w) A (eval elt (compEnvC scope cl C env)) (fun y s₃ => (∃ T its, y = .ref T ∧ s₂.heap.get? T = none ∧ s₃.heap.IsList T its ∧ G v its) ∧ Keeps s₂ s₃) E' s₂)
    (hQ : ∀ D (ys : List Value) h' tk, s.heap.get? D = none → h'.IsList D ys.toArray → h'.PlainList D ys.toArray → Paired (LstIs s.heap G h') (vs.filter p) ys → (∀ y ∈ ys, y ≠ .ref D) →
      (∀ b o, b ≠ env.locals → s.heap.get? b = some o → h'.get? b = some o) → Fr h₀ env.locals h' (fun z => if z = y then some (.ref D) else m z) → Q .next { s with heap := h', toks := tk })
    (hs : ∀ x, foldedSetIterable iter env x = pure x) :
    wpAny (model prog w) A (exec (.Assign [.Name y py] (.ListComp elt [⟨.Name x px, iter, ifs, 0⟩] scope pos) spos) env) Q E s := by
  refine assign_compO (h₀ := h₀) (m := m) p G hsw hclos hcell hkind hnames hx hy hp (hit _ ?_) hs
  have hlt : l < s.heap.objs.size := by
    rcases hl with hl | hl
    · obtain ⟨_, e, _⟩ := hl; exact Heap.lt_size e
    · obtain ⟨_, e, _⟩ := hl; exact Heap.lt_size e
  have key : ∀ (io : Obj) (I : Addr) (St : Nat → Heap → Prop), I = s.heap.objs.size → Walks prog w A I [I, l] [I] vs.toArray.size (fun i v => vs.toArray[i]? = some v) St → (∀ i h, St i h → ∃ o, h.get? I = some o) → St 0 (s.heap.push io) →
      ∃ I' fp wr n P St', Value.ref I = .ref I' ∧ Walks prog w A I' fp wr n P St' ∧ n ≤ sizeLine ∧ (∀ i h, St' i h → ∀ b ∈ wr, ∃ o, h.get? b = some o) ∧ St' 0 (s.heap.push io) ∧ (∀ b ∈ fp, b < (s.heap.push io).objs.size) ∧
        QuietOnCO prog w A env scope cl x ifs elt wr P p G { s with heap := s.heap.push io } ∧ Fr h₀ env.locals (s.heap.push io) m ∧ (∀ b ∈ wr, b ≠ env.locals ∧ h₀.get? b = none) ∧
        (∀ D h' tk ys (vs : List Value), (s.heap.push io).get? D = none → h'.IsList D ys → h'.PlainList D ys → vs.length = n → (∀ j v, vs[j]? = some v → P j v) → Paired (LstIs (s.heap.push io) G h') (vs.filter p) ys.toList →
          (∀ y ∈ ys.toList, y ≠ .ref D) → (∀ b o, b ≠ env.locals → b ∉ wr → (s.heap.push io).get? b = some o → h'.get? b = some o) → Fr h₀ env.locals h' (fun z => if z = y then some (.ref D) else m z) → Q .next { s with heap := h', toks := tk }) := by
    rintro io I St rfl W live st
    have up : ∀ (h₃ : Heap), (∀ b o, b ∉ [s.heap.objs.size] → (s.heap.push io).get? b = some o → h₃.get? b = some o) → Stays s.heap h₃ :=
      fun h₃ hk b o e => hk b o (fun hm => by rcases List.mem_cons.mp hm with rfl | hm; exact Nat.lt_irrefl _ (Heap.lt_size e); cases hm) (Heap.get?_push_of_some _ e)
    have fresh : ∀ C, (s.heap.push io).objs.size ≤ C → ∀ b o, s.heap.get? b = some o → b < C := fun C hC b o e => by
      rw [Heap.size_push] at hC
      exact Nat.lt_of_lt_of_le (Nat.lt_succ_of_lt (Heap.lt_size e)) hC
    refine ⟨_, _, _, _, _, _, rfl, W, (by rw [List.size_toArray, sizeLine_eq]; omega), fun i h st b hb => ?_, st, fun b hb => ?_, ⟨?_, ?_⟩, F.push _, fun b hb => ?_, ?_⟩
    · rw [List.mem_singleton.mp hb]; exact live i h st
    · rw [Heap.size_push]
      rcases List.mem_cons.mp hb with rfl | hb
      · exact Nat.lt_succ_self _
      · rw [List.mem_singleton.mp hb]; exact Nat.lt_succ_of_lt hlt
    · intro C i v s₃ m₃ E' hC hP hn' hm hk _
      exact htests C v s₃ m₃ E' (fresh C hC) (by simpa using Array.mem_of_getElem? hP) hn' hm (up _ hk)
    · intro C i v s₃ m₃ E' hC hP hp hn' hm hk _
      exact helt C v s₃ m₃ E' (fresh C hC) (by simpa using Array.mem_of_getElem? hP) hp hn' hm (up _ hk)
    · rw [List.mem_singleton.mp hb]
      exact ⟨(Nat.ne_of_lt F.ns.lt).symm, next_is_new F⟩
    · intro D h' tk ys vs' hnew hlD hplD hlen hP hF hnD hk F'
      have e : vs' = vs := by simpa using list_of_places hlen hP
      subst e
      have old : ∀ T, (s.heap.push io).get? T = none → s.heap.get? T = none := fun T hT => by
        cases e : s.heap.get? T with
        | none => rfl
        | some o => rw [Heap.get?_push_of_some _ e] at hT; cases hT
      refine hQ D ys.toList h' tk (old D hnew) (by rw [Array.toArray_toList]; exact hlD) (by rw [Array.toArray_toList]; exact hplD) (hF.mono fun _ _ hy => ?_) hnD (fun b o hb e => hk b o hb (fun hm => ?_) (Heap.get?_push_of_some _ e)) F'
      · refine Classical.byContradiction fun hn9 => ?_
        obtain ⟨T, its, rfl, h1, hlT, hG⟩ := hy
        refine hn9 ?_
        clear hn9
        exact ⟨T, its, rfl, old T h1, hlT, hG⟩
      · rw [List.mem_singleton.mp hm] at e
        exact Nat.lt_irrefl _ (Heap.lt_size e)
  rcases hl with hl | hl
  · refine wpAny_pyIter_tuple hl ?_
    exact key _ _ _ rfl (Walks.tuple hh _ _ (Nat.ne_of_lt hlt) vs.toArray) (fun i h st => by obtain ⟨⟨o, ho, _⟩, _⟩ := st; exact ⟨o, ho⟩) ⟨⟨_, Heap.get?_push_size _ rfl, rfl, rfl⟩, hl.push _⟩
  · refine wpAny_pyIter_list hl ?_
    exact key _ _ _ rfl (Walks.list hh _ _ (Nat.ne_of_lt hlt) vs.toArray) (fun i h st => by obtain ⟨⟨o, ho, _⟩, _⟩ := st; exact ⟨o, ho⟩) ⟨⟨_, Heap.get?_push_size _ rfl, rfl, rfl⟩, hl.push _⟩
end
end Mine
end

section
open PySem PySem.W PyProof.Rows
namespace Mine
local macro_rules | `(tactic| walk_at "no goal") => `(tactic| skip)
theorem freshCS : True ∧ True := by
  k_with_none
  w_top off
  first | (walk1; done) | exact ⟨trivial, trivial⟩
end Mine
end

/-! part CS -/
section
open PySem PySem.W PySem.W.X PyProof.Rows PySem.Calls
set_option maxRecDepth 100000
set_option maxHeartbeats 4000000
namespace Mine
section
variable {prog : Program} {w : World} {A : Around} {E : Value → Shared → Prop} {s : Shared} {Q : Value → Shared → Prop}
/-- a split by a sign makes one new list and nothing else -/
theorem split_x {x y : Str} {t u : Tok} (hy : (y.length == 0) = false) (hx : x.length ≤ 1000)
    (h : ∀ l k, l.map (·.1) = Txt.split x y → Q (.ref s.heap.objs.size) { s with heap := s.heap.push { cls := .type "list", data := .seq (strValues l).toArray }, toks := k }) :
    wpAny (model prog w) A (call (.builtin "str.split") [.str x t, .str y u]) Q E s := by
  have big := sizeLine_eq
  have occ := StrLaws.occ_length_le x y 0 x.length (x.length + 1)
  have hn : (Builtin.Str.partsBetween x (Builtin.Str.occurrences x y 0 x.length (x.length + 1)) y.length).length ≤ sizeLine := by rw [length_partsBetween]; omega
  by_cases c1 : (decide (x.length < y.length) || decide (Builtin.Str.strKind x < Builtin.Str.strKind y)) = true
  · exact call_meets F.slot_str_split (typeIs_str _ _ _) F.entry_str_split (F.args_str_split_2 _ _) (meets_str_split_cannot_occur x y t u c1) (h [(x, t)] s.toks (if_pos c1).symm)
  · have c1' := eq_false_of_ne_true c1
    by_cases c2 : (Builtin.Str.occurrences x y 0 x.length (x.length + 1)).isEmpty = true
    · exact call_meets F.slot_str_split (typeIs_str _ _ _) F.entry_str_split (F.args_str_split_2 _ _) (meets_str_split_not_found x y t u c1' hy c2) (h [(x, t)] s.toks ((if_neg c1).trans (if_pos c2)).symm)
    · refine call_meets F.slot_str_split (typeIs_str _ _ _) F.entry_str_split (F.args_str_split_2 _ _) (meets_str_split_sep x y t u c1' hy (eq_false_of_ne_true c2) (by omega) hn) ?_
      show wants Q E _ { s with toks := _, heap := s.heap.push { cls := .type "list", data := .seq (strsFrom s.toks (Builtin.Str.partsBetween x (Builtin.Str.occurrences x y 0 x.length (x.length + 1)) y.length)).toArray } }
      rw [strsFrom_eq]
      exact h (numbered s.toks _) _ ((numbered_texts _ _).trans ((if_neg c1).trans (if_neg c2)).symm)
end
end Mine
end

section
open PySem PySem.W PyProof.Rows
namespace Mine
local macro_rules | `(tactic| walk_at "no goal") => `(tactic| skip)
theorem freshSC : True ∧ True := by
  k_with_none
  w_top off
  first | (walk1; done) | exact ⟨trivial, trivial⟩
end Mine
end

/-! part SC -/
section
open PySem PySem.W PySem.W.X PyProof.Rows PySem.Calls
set_option maxRecDepth 100000
set_option maxHeartbeats 4000000
namespace Mine
/-- a set that holds True alone -/
abbrev oneSet (ep : Nat) (led : Bool) : Obj := { cls := .type "set", dict := none, data := .set #[(1, .bool true)] ep { mask := 7, place := #[1], dummies := #[], finger := 0, led := led, moves := 0, plain := true }, slots := #[] }
abbrev noSet (led : Bool) : Obj := { cls := .type "set", dict := none, data := .set #[] 0 (.fresh 0 0 led), slots := #[] }
def ledIn (w : World) : Bool := !(w.params.followText "set-order")
theorem new_set {prog : Program} {w : World} {A : Around} {E : Value → Shared → Prop} {s : Shared} {Q : Value → Shared → Prop}
    (h : Q (.ref s.heap.objs.size) { s with heap := s.heap.push (noSet (ledIn w)) }) : wpAny (model prog w) A (newSet (.type "set")) Q E s := by
  unfold newSet setsByText
  refine wpAny_bind (wpAny_bind (wpAny_askSetting (wpAny_pure ?_)))
  dsimp only
  simp only [newObj]
  exact wpAny_bind (wpAny_alloc (wpAny_pure h))
section
variable {prog : Program} {w : World} {A : Around} {E : Value → Shared → Prop} {s : Shared} {a : Addr}
theorem hash_true {Q : Int → Shared → Prop} (h : Q 1 { s with toks := s.toks + 1 }) : wpAny (model prog w) A (pyHash (.bool true)) Q E s := by
  have hT : s.TypeIs (.bool true) "bool" := rfl
  unfold pyHash
  have hv : [Value.bool true].any Value.onHeap = false := rfl
  show wpAny _ _ (pyHashByItsType (.bool true)) Q E s
  unfold pyHashByItsType
  refine wpAny_bind ?_
  rw [cRoomFor, if_neg (by rw [hv]; exact Bool.false_ne_true)]; refine wpAny_pure ?_
  refine wpAny_bind (wpAny_specialOf hT F.slot_bool_hash.lookup ?_)
  show wpAny _ _ (if (some (Value.builtin "int.__hash__") == some Value.none) = true then _ else _) Q E s
  rw [if_neg (by rw [beq_builtin_none]; exact Bool.false_ne_true)]
  refine wpAny_bind (wpAny_specialOf hT F.slot_bool_hash.lookup ?_)
  show wpAny _ _ (callSpecialIfBoundUnlessNone? (.bool true) "__hash__" _ >>= _) Q E s
  refine wpAny_bind (wpAny_callSpecialIfBoundUnlessNone?_slot hT F.slot_bool_hash
    (wpAny_call_entry F.slot_bool_hash hT entry_int_hash
      (show wpAny _ _ (do ret (← mkInt 1)) _ _ s from wpAny_ret_mkInt ?_) (args_int_hash _)))
  show wpAny _ _ (if (decide (-(2 : Int) ^ 63 ≤ 1) && decide ((1 : Int) < 2 ^ 63)) = true then _ else _) Q E _
  rw [if_pos (by decide)]
  exact wpAny_pure h
theorem add_one {led : Bool} {Q : Value → Shared → Prop} (ho : s.heap.get? a = some (noSet led)) (h : ∀ h' tk, Heap.SameBut a s.heap h' → h'.get? a = some (oneSet 1 led) → Q .none { s with heap := h', toks := tk }) :
    wpAny (model prog w) A (call (.builtin "set.add") [.ref a, .bool true]) Q E s := by
  have hT : s.TypeIs (.ref a) "set" := ⟨_, ho, rfl⟩
  refine wpAny_call_entry F.slot_set_add hT F.entry_set_add ?_ (F.args_set_add_2 _ _)
  unfold Builtin.«set.add» Builtin.Frozenset.oneOther
  simp only [List.isEmpty_nil, bind_assoc]
  unfold Builtin.Frozenset.addrOf setAdd
  refine wpAny_bind (wpAny_pure ?_)
  try dsimp only
  refine wpAny_bind (wpAny_pure ?_)
  try dsimp only
  refine wpAny_bind ?_
  refine wpAny_holding ?_
  refine wpAny_bind (hash_true ?_)
  unfold setAddHashed setAddHashedIn
  refine wpAny_holding (wpAny_bind (wpAny_setState_of (s := { s with toks := s.toks + 1 }) ho rfl (by cases led <;> rfl) ?_))
  dsimp only
  rw [show byScan (.bool true) #[] = true by decide +kernel]
  simp only [↓reduceIte]
  unfold setAddByScan
  refine wpAny_bind ?_
  refine wpAny_bind (wpAny_rule ?_)
  refine wpAny_bind ?_
  show wpAny _ _ (setScanFrom a (.bool true) 1 true [] 0) _ _ _
  unfold setScanFrom
  refine wpAny_pure ?_
  dsimp only
  rw [show layNew (SetTable.fresh 0 0 led) #[] 1 (.bool true) = (#[(1, .bool true)], { mask := 7, place := #[1], dummies := #[], finger := 0, led := led, moves := 0, plain := true }, false, false) by cases led <;> decide +kernel]
  dsimp only
  refine wpAny_bind (wpAny_pure ?_)
  refine wpAny_bind ?_
  show wpAny _ _ (pure true) _ _ _
  refine wpAny_pure ?_
  simp only [if_true]
  refine wpAny_bind (wpAny_storeSet_of (s := { s with toks := s.toks + 1 }) ho rfl ?_)
  rw [if_neg (by cases led <;> decide +kernel)]
  refine wpAny_pure (wpAny_pure ?_)
  show wpAny _ _ (ret Value.none) _ _ _
  refine wpAny_pure ⟨_, rfl, h _ _ (Heap.SameBut.update s.heap a _) ?_⟩
  have hg := Heap.get?_update_self (Obj.putSet #[(1, .bool true)] { mask := 7, place := #[1], dummies := #[], finger := 0, led := led, moves := 0, plain := true }) ho (by rfl)
  exact hg
theorem add_two {led : Bool} {ep : Nat} {Q : Value → Shared → Prop} (ho : s.heap.get? a = some (oneSet ep led)) (h : ∀ tk, Q .none { s with toks := tk }) :
    wpAny (model prog w) A (call (.builtin "set.add") [.ref a, .bool true]) Q E s := by
  have hT : s.TypeIs (.ref a) "set" := ⟨_, ho, rfl⟩
  refine wpAny_call_entry F.slot_set_add hT F.entry_set_add ?_ (F.args_set_add_2 _ _)
  unfold Builtin.«set.add» Builtin.Frozenset.oneOther
  simp only [List.isEmpty_nil, bind_assoc]
  unfold Builtin.Frozenset.addrOf setAdd
  refine wpAny_bind (wpAny_pure ?_)
  try dsimp only
  refine wpAny_bind (wpAny_pure ?_)
  try dsimp only
  refine wpAny_bind ?_
  refine wpAny_holding ?_
  refine wpAny_bind (hash_true ?_)
  unfold setAddHashed setAddHashedIn
  refine wpAny_holding (wpAny_bind (wpAny_setState_of (s := { s with toks := s.toks + 1 }) ho rfl (by cases led <;> rfl) ?_))
  dsimp only
  rw [show byScan (.bool true) #[(1, .bool true)] = true by decide +kernel]
  simp only [↓reduceIte]
  unfold setAddByScan
  refine wpAny_bind ?_
  refine wpAny_bind (wpAny_rule ?_)
  refine wpAny_bind ?_
  show wpAny _ _ (setScanFrom a (.bool true) 1 true [(1, .bool true)] 0) _ _ _
  unfold setScanFrom
  rw [if_pos (by decide)]
  refine wpAny_bind (wpAny_setEpoch_of (s := { s with toks := s.toks + 1 }) ho rfl (by cases led <;> rfl) ?_)
  refine wpAny_bind ?_
  unfold eqBool
  rw [if_pos (by decide)]
  refine wpAny_holding (wpAny_bind (wpAny_rule (wpAny_pure ?_)))
  rw [if_pos (by decide)]
  refine wpAny_pure ?_
  dsimp only
  refine wpAny_pure (wpAny_pure ?_)
  show wpAny _ _ (ret Value.none) _ _ _
  exact wpAny_pure ⟨_, rfl, h _⟩
theorem entry_set_iter : entryFor table "set.__iter__" = some Builtin.«frozenset.__iter__» :=
  entryFor_alias (id' := "frozenset.__iter__") (by kernel_rfl) rfl (by decide +kernel) (by kernel_rfl)
theorem slot_setiter_next : Slot "set_iterator" "__next__" "set_iterator.__next__" := .of (owner := "set_iterator") (n := "__next__") (by rw [typeLookup_type, builtinLookup_eq_fast]; kernel_rfl) (by decide +kernel) (by decide +kernel) (by decide +kernel) (by decide +kernel) (by rw [isSubtype_type]; kernel_rfl)
theorem entry_setiter_next : entryFor table "set_iterator.__next__" = some Builtin.«set_iterator.__next__» := entryFor_of_fast (by kernel_rfl)
theorem args_setiter_next (a : Value) : argsOk "set_iterator.__next__" ⟨[a], []⟩ := by unfold argsOk; kernel_rfl
abbrev setIt (a : Addr) (slot i ep : Nat) : Obj := { cls := .type "set_iterator", dict := none, data := .fields #[.int slot 0, .int i 0, .ref a, .int 1 0, .int ep 0], slots := #[] }
theorem set_iter {led : Bool} {ep : Nat} {Q : Value → Shared → Prop} (ho : s.heap.get? a = some (oneSet ep led)) (h : Q (.ref s.heap.objs.size) { s with heap := s.heap.push (setIt a 0 0 ep) }) :
    wpAny (model prog w) A (pyIter (.ref a)) Q E s := by
  have hT : s.TypeIs (.ref a) "set" := ⟨_, ho, rfl⟩
  refine wpAny_pyIter_slot hT F.slot_set_iter (wpAny_call_entry F.slot_set_iter hT entry_set_iter ?_ (F.args_set_iter_1 _))
  unfold Builtin.«frozenset.__iter__»
  refine wpAny_bind (m := Builtin.Frozenset.slot0 "__iter__" _) (wpAny_pure ?_)
  refine wpAny_bind ?_
  unfold Builtin.Frozenset.sizeOf setEntries
  refine wpAny_bind (wpAny_bind (wpAny_setState_of ho rfl (by cases led <;> rfl) (wpAny_pure (wpAny_pure ?_))))
  refine wpAny_bind ?_
  unfold setDrawn
  refine wpAny_bind (wpAny_setState_of ho rfl (by cases led <;> rfl) ?_)
  dsimp only
  unfold setsByText
  refine wpAny_bind (wpAny_bind (wpAny_askSetting (wpAny_pure ?_)))
  refine wpAny_pure ?_
  split
  · rename_i hh
    exact Bool.noConfusion (show false = true from ((Bool.and_eq_true _ _).mp hh).2)
  refine wpAny_bind (wpAny_pure (wpAny_bind (wpAny_setEpoch_of ho rfl (by cases led <;> rfl) ?_)))
  exact wpAny_bind (wpAny_newObj_type (wpAny_pure ⟨_, rfl, "set_iterator", _, ⟨_, Heap.get?_push_size _ rfl, rfl⟩, slot_setiter_next.lookup, h⟩))
theorem pick_one (f : Nat → Nat) (x : Int × Value) : pickOrder f #[x] = #[x] := by
  unfold pickOrder
  simp [pickOrder.go, Nat.mod_one]
theorem byT : w.params.followText "set-order" = !(ledIn w) := by unfold ledIn; rw [Bool.not_not]
theorem setNext1 {ep : Nat} {Q : Option (Value × Nat) → Shared → Prop} (ho : s.heap.get? a = some (oneSet ep (ledIn w))) (h : Q (some (.bool true, if ledIn w then 2 else 0)) s) :
    wpAny (model prog w) A (setNext a 0 0 ep) Q E s := by
  unfold setNext
  refine wpAny_bind (wpAny_setState_of ho rfl (by cases ledIn w <;> rfl) ?_)
  dsimp only
  unfold setsByText
  refine wpAny_bind (wpAny_bind (wpAny_askSetting (wpAny_pure ?_)))
  show wpAny _ _ (if w.params.followText "set-order" = true then _ else _) _ _ _
  rw [byT]
  cases hl : ledIn w with
  | false =>
    rw [hl] at h ho
    rw [if_pos (by decide : (!false) = true), if_neg (by simp)]
    refine wpAny_bind ?_
    unfold setWalk
    refine wpAny_bind (wpAny_setState_of ho rfl rfl ?_)
    dsimp only
    unfold setsByText
    refine wpAny_bind (wpAny_bind (wpAny_askSetting (wpAny_pure ?_)))
    show wpAny _ _ (if w.params.followText "set-order" = true then _ else _) _ _ _
    rw [byT, hl, if_pos (by decide : (!false) = true)]
    refine wpAny_bind (wpAny_askSetting (wpAny_pure ?_))
    rw [pick_one]
    exact wpAny_pure h
  | true =>
    rw [hl] at h
    rw [if_neg (by decide)]
    split
    · rename_i hh
      exact Bool.noConfusion (show false = true from hh)
    · refine wpAny_bind (m := pure PUnit.unit) (wpAny_pure ?_)
      exact wpAny_pure h
theorem setNext2 {ep slot : Nat} {Q : Option (Value × Nat) → Shared → Prop} (ho : s.heap.get? a = some (oneSet ep (ledIn w))) (hs : ledIn w = true → slot = 2) (h : Q none s) :
    wpAny (model prog w) A (setNext a slot 1 ep) Q E s := by
  unfold setNext
  refine wpAny_bind (wpAny_setState_of ho rfl (by cases ledIn w <;> rfl) ?_)
  dsimp only
  unfold setsByText
  refine wpAny_bind (wpAny_bind (wpAny_askSetting (wpAny_pure ?_)))
  show wpAny _ _ (if w.params.followText "set-order" = true then _ else _) _ _ _
  rw [byT]
  cases hl : ledIn w with
  | false =>
    rw [hl] at ho
    rw [if_pos (by decide : (!false) = true), if_neg (by simp)]
    refine wpAny_bind ?_
    unfold setWalk
    refine wpAny_bind (wpAny_setState_of ho rfl rfl ?_)
    dsimp only
    unfold setsByText
    refine wpAny_bind (wpAny_bind (wpAny_askSetting (wpAny_pure ?_)))
    show wpAny _ _ (if w.params.followText "set-order" = true then _ else _) _ _ _
    rw [byT, hl, if_pos (by decide : (!false) = true)]
    refine wpAny_bind (wpAny_askSetting (wpAny_pure ?_))
    rw [pick_one]
    exact wpAny_pure h
  | true =>
    rw [hs hl]
    rw [if_neg (by decide)]
    split
    · rename_i hh
      exact Bool.noConfusion (show false = true from hh)
    · refine wpAny_bind (m := pure PUnit.unit) (wpAny_pure ?_)
      exact wpAny_pure h
theorem set_next1 {I ep : Nat} {Q : Option Value → Shared → Prop} (ho : s.heap.get? a = some (oneSet ep (ledIn w))) (hI : s.heap.get? I = some (setIt a 0 0 ep))
    (h : ∀ h', h'.get? I = some (setIt a (if ledIn w then 2 else 0) 1 ep) → Heap.SameBut I s.heap h' → Q (some (.bool true)) { s with heap := h' }) :
    wpAny (model prog w) A (pyNext (.ref I)) Q E s := by
  have hT : s.TypeIs (.ref I) "set_iterator" := ⟨_, hI, rfl⟩
  unfold pyNext
  refine wpAny_bind (wpAny_attempt (wpAny_callSpecial?_slot (name := Str.ofString "__next__") hT slot_setiter_next (wpAny_call_entry slot_setiter_next hT entry_setiter_next ?_ (args_setiter_next _))))
  show wpAny _ _ (fieldsOf (.ref I) >>= _) _ _ _
  refine wpAny_bind (wpAny_fieldsOf hI rfl ?_)
  dsimp only
  unfold setEntries
  refine wpAny_bind (wpAny_bind (wpAny_setState_of ho rfl (by cases ledIn w <;> rfl) (wpAny_pure ?_)))
  rw [if_neg (by simp)]
  refine wpAny_bind (setNext1 ho ?_)
  dsimp only
  refine wpAny_bind (wpAny_setField_rec hI (by simp) fun h1 e1 s1 => ?_)
  refine wpAny_bind (wpAny_setField_rec e1 (by simp) fun h2 e2 s2 => ?_)
  exact wpAny_pure ⟨_, rfl, wpAny_pure (h h2 e2 (s1.trans s2))⟩
theorem set_next2 {I ep slot : Nat} {Q : Option Value → Shared → Prop} (hh : A.handled = none) (ho : s.heap.get? a = some (oneSet ep (ledIn w))) (hs : ledIn w = true → slot = 2) (hI : s.heap.get? I = some (setIt a slot 1 ep))
    (h : ∀ h', Heap.ExtBut I s.heap h' → Q none { s with heap := h' }) :
    wpAny (model prog w) A (pyNext (.ref I)) Q E s := by
  have hT : s.TypeIs (.ref I) "set_iterator" := ⟨_, hI, rfl⟩
  unfold pyNext
  refine wpAny_bind (wpAny_attempt (wpAny_callSpecial?_slot (name := Str.ofString "__next__") hT slot_setiter_next (wpAny_call_entry slot_setiter_next hT entry_setiter_next ?_ (args_setiter_next _))))
  show wpAny _ _ (fieldsOf (.ref I) >>= _) _ _ _
  refine wpAny_bind (wpAny_fieldsOf hI rfl ?_)
  dsimp only
  unfold setEntries
  refine wpAny_bind (wpAny_bind (wpAny_setState_of ho rfl (by cases ledIn w <;> rfl) (wpAny_pure ?_)))
  rw [if_neg (by simp)]
  refine wpAny_bind (setNext2 ho hs ?_)
  dsimp only
  refine wpAny_bind (wpAny_setField_rec hI (by simp) fun h1 e1 s1 => ?_)
  refine wpAny_bind ?_
  simp only [newExc, newTuple]
  refine wpAny_bind (wpAny_newObj_type ?_ (by size_fits))
  refine wpAny_bind (m := firstArgMember _ _) (wpAny_of_eq (a := Value.none) (by first | rfl | (simp only [firstArgMember]; rfl)) ?_)
  refine wpAny_newObj_type ?_ (by size_fits)
  simp only [raiseNew]
  refine wpAny_bind (wpAny_handled ?_)
  rw [show A.in1.handled = none from hh]
  refine wpAny_bind (wpAny_pure (wpAny_throw ?_))
  refine wpAny_bind (wpAny_isInstance (T := "StopIteration") (b := true) ⟨_, Heap.get?_push_size _ rfl, rfl⟩ isSubtype_stop ?_)
  exact wpAny_pure (h _ ((s1.extBut.push _).push _))
theorem unpack_one {ep : Nat} {Q : List Value → Shared → Prop} (hh : A.handled = none) (ho : s.heap.get? a = some (oneSet ep (ledIn w))) (h : ∀ h', Stays s.heap h' → Q [.bool true] { s with heap := h' }) :
    wpAny (model prog w) A (unpackItems (.ref a) 1 none) Q E s := by
  have hT : s.TypeIs (.ref a) "set" := ⟨_, ho, rfl⟩
  have hne : a ≠ s.heap.objs.size := Nat.ne_of_lt (Heap.lt_size ho)
  unfold unpackItems
  refine wpAny_bind ?_
  unfold notIterableAtAll
  refine wpAny_bind (wpAny_specialOf hT F.slot_set_iter.lookup ?_)
  refine wpAny_pure ?_
  simp only [Bool.false_eq_true, if_false]
  refine wpAny_bind (wpAny_holding (set_iter ho ?_))
  have hI : (s.heap.push (setIt a 0 0 ep)).get? s.heap.objs.size = some (setIt a 0 0 ep) := Heap.get?_push_size _ rfl
  have ho1 : (s.heap.push (setIt a 0 0 ep)).get? a = some (oneSet ep (ledIn w)) := Heap.get?_push_of_some _ ho
  have old : Stays s.heap (s.heap.push (setIt a 0 0 ep)) := fun b o e => Heap.get?_push_of_some _ e
  generalize s.heap.push (setIt a 0 0 ep) = H1 at *
  unfold draw
  refine wpAny_bind (wpAny_holding (wpAny_bind (set_next1 (s := { s with heap := H1 }) ho1 hI fun h2 e2 s2 => ?_)))
  dsimp only
  unfold draw
  refine wpAny_bind (wpAny_holding (wpAny_pure (wpAny_pure ?_)))
  rw [if_neg (by simp)]
  have ho2 : h2.get? a = some (oneSet ep (ledIn w)) := s2.extBut a _ hne ho1
  refine wpAny_bind (wpAny_holding (set_next2 (s := { s with heap := h2 }) hh ho2 (fun hl => by rw [hl]; rfl) e2 fun h3 s3 => ?_))
  simp only [Option.isSome_none, Bool.false_eq_true, if_false]
  refine wpAny_pure (h h3 fun b o e => ?_)
  have hb : b ≠ s.heap.objs.size := Nat.ne_of_lt (Heap.lt_size e)
  exact s3 b o hb (s2.extBut b o hb (old b o e))
end
end Mine
end

section
open PySem PySem.W PyProof.Rows
namespace Mine
local macro_rules | `(tactic| walk_at "no goal") => `(tactic| skip)
theorem freshSM : True ∧ True := by
  k_with_none
  w_top off
  first | (walk1; done) | exact ⟨trivial, trivial⟩
end Mine
end

/-! part SM -/
section
open PySem PySem.W PySem.W.X PyProof.Rows PySem.Calls
set_option maxRecDepth 100000
set_option maxHeartbeats 4000000
namespace Mine
section
variable {prog : Program} {w : World} {A : Around} {E : Value → Shared → Prop} {s : Shared} {env : Env} {R : Result → Shared → Prop}
theorem turn_set (elt target iter : Expr) (scope : Scope) (pos : Pos) (it acc : Value) (env : Env) :
    compTurn (.SetComp elt [⟨target, iter, [], 0⟩] scope pos) 0 it acc env = (standAt iter.pos >>= fun _ => pyNext it >>= fun r => match r with
      | none => pure (.done .next)
      | some v => letOwnedTupleGo target it v >>= fun _ => assign target env v >>= fun _ =>
        (eval elt env >>= fun x => standAt elt.pos >>= fun _ => call (.builtin "set.add") [acc, x] >>= fun _ => pure ()) >>= fun _ =>
          again (.compLoop (.SetComp elt [⟨target, iter, [], 0⟩] scope pos) 0 it acc env)) := by rfl
theorem start_set {elt target iter : Expr} {ifs : List Expr} {rest : List Comprehension} {scope : Scope} {pos : Pos} {it acc : Value} {env : Env}
    (h0 : codeAny (model prog w) A (.compLoop (.SetComp elt (⟨target, iter, ifs, 0⟩ :: rest) scope pos) 0 it acc env) R s)
    (h : wpAny (model prog w) A (pyIter it) (fun it' s' => codeAny (model prog w) A (.compLoop (.SetComp elt (⟨target, iter, ifs, 0⟩ :: rest) scope pos) 0 it' acc env) R s')
      (notedBy (model prog w) A env fun x s' => R (.error x) s') s) :
    codeAny (model prog w) A (.compStart (.SetComp elt (⟨target, iter, ifs, 0⟩ :: rest) scope pos) 0 it acc env) R s := by
  refine codeAny_of_tree ?_
  show wpAny _ _ ((compStart (.SetComp elt (⟨target, iter, ifs, 0⟩ :: rest) scope pos) 0 it acc env).onRaise (fun x => do noteFrame x env; standAt theWindowsPlace)) _ _ s
  refine wpAny_notedAt ?_
  unfold compStart
  show wpAny _ _ (ask >>= _) _ _ s
  refine wpAny_bind (wpAny_askSetting (wpAny_ite ?_))
  split
  · first
      | exact wpAny_bind (wpAny_pure (wpAny_pure (And.intro rfl h0)))
      | exact wpAny_pure (And.intro rfl h0)
  · first
      | exact wpAny_bind (wpAny_rule (wpAny_bind (wpAny_standAt (wpAny_bind (wpAny_mono h (fun it' s' h' => wpAny_pure (And.intro rfl h')) fun _ _ x => x)))))
      | (refine wpAny_bind (wpAny_rule ?_); show wpAny _ _ (standAt iter.pos >>= _) _ _ s; exact wpAny_bind (wpAny_standAt (wpAny_bind (wpAny_mono h (fun it' s' h' => wpAny_pure (And.intro rfl h')) fun _ _ x => x))))
theorem loop_set {elt target iter : Expr} {scope : Scope} {pos : Pos} {it acc : Value} {env : Env} (I : Nat → Shared → Prop)
    (turn : ∀ n s, I n s → wpAny (model prog w) A (pyNext it) (fun r s₁ => match r with
      | none => R (.ok .next) s₁
      | some v => wpAny (model prog w) A (assign target env v) (fun _ s₂ => wpAny (model prog w) A (eval elt env) (fun x s₃ =>
          wpAny (model prog w) A (call (.builtin "set.add") [acc, x]) (fun _ s₄ => ∃ m, m < n ∧ I m s₄) (notedBy (model prog w) A env fun e s' => R (.error e) s') s₃)
          (notedBy (model prog w) A env fun e s' => R (.error e) s') s₂) (notedBy (model prog w) A env fun e s' => R (.error e) s') s₁) (notedBy (model prog w) A env fun e s' => R (.error e) s') s)
    (n : Nat) (h : I n s) (ht : ∀ v, letOwnedTupleGo target it v = pure () := by intro _; rfl) :
    codeAny (model prog w) A (.compLoop (.SetComp elt [⟨target, iter, [], 0⟩] scope pos) 0 it acc env) R s := by
  refine codeAny_loop rfl I (fun n s hI => ?_) n h
  show wpAny _ A ((compTurn (.SetComp elt [⟨target, iter, [], 0⟩] scope pos) 0 it acc env).onRaise (fun x => do noteFrame x env; theTreesLotGoes x)) _ _ s
  refine wpAny_noted ?_
  rw [turn_set]
  refine wpAny_bind (wpAny_standAt (wpAny_bind (wpAny_mono (turn n s hI) (fun r s₁ h₁ => ?_) fun _ _ h' => h')))
  cases r with
  | none => exact wpAny_pure h₁
  | some v =>
    refine wpAny_bind (wpAny_of_eq (ht v) ?_)
    refine wpAny_bind (wpAny_mono h₁ (fun _ s₂ h₂ => ?_) fun _ _ h' => h')
    exact wpAny_bind (wpAny_bind (wpAny_mono h₂ (fun x s₃ h₃ => wpAny_bind (wpAny_standAt (wpAny_bind (wpAny_mono h₃ (fun _ s₄ h₄ => wpAny_pure (wpAny_pure ⟨rfl, h₄⟩)) fun _ _ h' => h')))) fun _ _ h' => h'))
/-- a set comprehension over a tuple whose every turn gives True -/
theorem setcomp_tup {elt iter : Expr} {x : Str} {px : Pos} {scope : Scope} {cl : List (Str × Addr)} {pos : Pos} {Q : Value → Shared → Prop} {l : Addr} {vs : List Value}
    (hh : A.handled = none) (hl : s.heap.IsTuple l vs.toArray) (hclos : closureFor scope env = pure cl) (hcell : ∀ y ∈ scope.names, y.2 ≠ .cell) (hkind : scope.kind = .function)
    (hnames : ∀ y ∈ scope.names, y.2 = .local → scope.names.lookup y.1 = some .local) (hx : scope.names.lookup x = some .local) (hn : 0 < vs.length)
    (hit : ∀ R : Value → Shared → Prop, R (.ref l) s → wpAny (model prog w) A (eval iter env) R E s)
    (helt : ∀ C v s₂ m₂ E', (∀ b o, s.heap.get? b = some o → b < C) → v ∈ vs → s₂.heap.Ns C m₂ → m₂ x = some v → Stays s.heap s₂.heap →
        wpAny (model prog w) A (eval elt (compEnvC scope cl C env)) (fun y s₃ => y = .bool true ∧ Keeps s₂ s₃) E' s₂)
    (hQ : ∀ D h' tk, s.heap.get? D = none → h'.get? D = some (oneSet 1 (ledIn w)) → Stays s.heap h' → Q (.ref D) { s with heap := h', toks := tk })
    (hs : ∀ x, foldedSetIterable iter env x = pure x) :
    wpAny (model prog w) A (eval (.SetComp elt [⟨.Name x px, iter, [], 0⟩] scope pos) env) Q E s := by
  show wpAny _ _ (comprehension (.SetComp elt [⟨.Name x px, iter, [], 0⟩] scope pos) scope env _ (newSet (.type "set")) false (eval iter env)) Q E s
  refine wpAny_comprehension_free (use := none) rfl hs hclos hkind hnames (hit _ ?_)
  have hlt : l < s.heap.objs.size := by obtain ⟨_, e, _⟩ := hl; exact Heap.lt_size e
  refine wpAny_pyIter_tuple hl ?_
  have W := Walks.tuple (prog := prog) (w := w) (A := A) hh s.heap.objs.size l (Nat.ne_of_lt hlt) vs.toArray
  have hst : (s.heap.push { cls := .type "tuple_iterator", data := .fields #[.ref l, .int 0 0] }).IsTupleIter s.heap.objs.size l 0 ∧ (s.heap.push { cls := .type "tuple_iterator", data := .fields #[.ref l, .int 0 0] }).IsTuple l vs.toArray := ⟨⟨_, Heap.get?_push_size _ rfl, rfl, rfl⟩, hl.push _⟩
  have hsz1 : (s.heap.push { cls := .type "tuple_iterator", data := .fields #[.ref l, .int 0 0] }).objs.size = s.heap.objs.size + 1 := Heap.size_push ..
  have old1 : Stays s.heap (s.heap.push { cls := .type "tuple_iterator", data := .fields #[.ref l, .int 0 0] }) := fun b o e => Heap.get?_push_of_some _ e
  generalize s.heap.push { cls := .type "tuple_iterator", data := .fields #[.ref l, .int 0 0] } = H1 at *
  refine new_set ?_
  have hD : (H1.push (noSet (ledIn w))).get? H1.objs.size = some (noSet (ledIn w)) := Heap.get?_push_size _ rfl
  have hsz2 : (H1.push (noSet (ledIn w))).objs.size = H1.objs.size + 1 := Heap.size_push ..
  have old2 : Stays H1 (H1.push (noSet (ledIn w))) := fun b o e => Heap.get?_push_of_some _ e
  dsimp only
  generalize H1.push (noSet (ledIn w)) = H2 at *
  refine wpAny_newFunctionEnv hcell (by intro y hy; simp at hy) (fun h₁ hns₁ hsb₁ => ?_) hkind
  dsimp only at hns₁ hsb₁ ⊢
  have a1 : s.heap.objs.size ≠ H2.objs.size := Nat.ne_of_lt (by rw [hsz2, hsz1]; exact Nat.lt_succ_of_lt (Nat.lt_succ_self _))
  have a2 : H1.objs.size ≠ H2.objs.size := Nat.ne_of_lt (by rw [hsz2]; exact Nat.lt_succ_self _)
  have a3 : s.heap.objs.size ≠ H1.objs.size := Nat.ne_of_lt (by rw [hsz1]; exact Nat.lt_succ_self _)
  have old3 : ∀ b o, b ≠ H2.objs.size → H2.get? b = some o → h₁.get? b = some o := fun b o hb e => hsb₁.extBut b o hb (Heap.get?_push_of_some _ e)
  have low : ∀ b o, s.heap.get? b = some o → b ≠ s.heap.objs.size ∧ b ≠ H1.objs.size ∧ b ≠ H2.objs.size := fun b o e => by
    have := Heap.lt_size e
    refine ⟨Nat.ne_of_lt this, Nat.ne_of_lt ?_, Nat.ne_of_lt ?_⟩
    · rw [hsz1]; exact Nat.lt_succ_of_lt this
    · rw [hsz2, hsz1]; exact Nat.lt_succ_of_lt (Nat.lt_succ_of_lt this)
  have hst1 : h₁.IsTupleIter s.heap.objs.size l 0 ∧ h₁.IsTuple l vs.toArray := ⟨hst.1.at fun o e => old3 _ o a1 (old2 _ _ e), hst.2.at fun o e => old3 _ o (Nat.ne_of_lt (by rw [hsz2, hsz1]; exact Nat.lt_succ_of_lt (Nat.lt_succ_of_lt hlt))) (old2 _ _ e)⟩
  have hD1 : h₁.get? H1.objs.size = some (noSet (ledIn w)) := old3 _ _ a2 hD
  have stay1 : Stays s.heap h₁ := fun b o e => old3 b o (low b o e).2.2 (old2 _ _ (old1 _ _ e))
  have hDn : s.heap.get? H1.objs.size = none := Heap.get?_none_of_le (by rw [hsz1]; exact Nat.le_succ _)
  have hCn : s.heap.get? H2.objs.size = none := Heap.get?_none_of_le (by rw [hsz2, hsz1]; exact Nat.le_succ_of_le (Nat.le_succ _))
  have hCgt : ∀ b o, s.heap.get? b = some o → b < H2.objs.size := fun b o e => by rw [hsz2, hsz1]; exact Nat.lt_succ_of_lt (Nat.lt_succ_of_lt (Heap.lt_size e))
  have hlC : l ≠ H2.objs.size := (low _ _ hl.choose_spec.1).2.2
  have hlD : l ≠ H1.objs.size := (low _ _ hl.choose_spec.1).2.1
  have hlI : l ≠ s.heap.objs.size := (low _ _ hl.choose_spec.1).1
  generalize H2.objs.size = C at *
  generalize H1.objs.size = D at *
  generalize s.heap.objs.size = I at *
  clear hst hD old2 old3 hsb₁
  have loop : ∀ s₃ : Shared, s₃ = { s with heap := h₁, toks := s.toks + ([] : List (Str × Value)).length } →
      codeAny (model prog w) A (.compLoop (.SetComp elt [⟨.Name x px, iter, [], 0⟩] scope pos) 0 (.ref I) (.ref D) (compEnvC scope cl C env)) (compPost (model prog w) A E none Q (.ref D) C) s₃ := by
    rintro s₃ rfl
    refine loop_set (fun k s' => ∃ i h' tk m', s' = { s with heap := h', toks := tk } ∧ (h'.IsTupleIter I l i ∧ h'.IsTuple l vs.toArray) ∧ (i = 0 → h'.get? D = some (noSet (ledIn w))) ∧ (0 < i → h'.get? D = some (oneSet 1 (ledIn w))) ∧ h'.Ns C m' ∧ Stays s.heap h' ∧ i ≤ vs.length ∧ k = vs.length + 1 - i) ?_ (vs.length + 1)
      ⟨0, h₁, _, _, rfl, hst1, fun _ => hD1, fun h => absurd h (by decide), hns₁, stay1, Nat.zero_le _, rfl⟩
    intro k s' hx9
    refine Classical.byContradiction fun hn9 => ?_
    obtain ⟨i, h', tk, m', rfl, hst', e0, e1, hn', st', hi, rfl⟩ := hx9
    refine hn9 ?_
    clear hn9
    by_cases hlt2 : i < vs.length
    · refine W.item i _ _ _ (by simpa using hlt2) hst' fun v h₁ tk₁ hP hst₁ hk₁ => ?_
      have hv : v ∈ vs := by simpa using Array.mem_of_getElem? hP
      have st1 : Stays s.heap h₁ := fun b o e => hk₁ b o (fun h => (low b o e).1 (List.mem_singleton.mp h)) (st' b o e)
      refine wpAny_assign_Name (wpAny_storeName_local (lookup_relabel_local hx) (hn'.at' fun o e => hk₁ _ o (fun h => a1 (List.mem_singleton.mp h).symm) e) (fun h₂ hn₂ hs₂ => ?_) (by simp [compEnvC, relabel, hkind]))
      have st2 : Stays s.heap h₂ := fun b o e => hs₂.extBut b o (low b o e).2.2 (st1 b o e)
      have hst₂ : h₂.IsTupleIter I l (i + 1) ∧ h₂.IsTuple l vs.toArray := ⟨hst₁.1.at fun o e => hs₂.extBut _ o a1 e, hst₁.2.at fun o e => hs₂.extBut _ o hlC e⟩
      refine wpAny_mono (helt C v _ _ _ hCgt hv hn₂ (by simp) st2) (fun y s₃ hy => ?_) fun _ _ e => e
      refine Classical.byContradiction fun hn9 => ?_
      obtain ⟨rfl, h₃, tk₃, rfl, hk₃⟩ := hy
      refine hn9 ?_
      clear hn9
      have st3 : Stays s.heap h₃ := fun b o e => hk₃ b o (st2 b o e)
      have hst₃ : h₃.IsTupleIter I l (i + 1) ∧ h₃.IsTuple l vs.toArray := ⟨hst₂.1.at fun o e => hk₃ _ o e, hst₂.2.at fun o e => hk₃ _ o e⟩
      have hn₃ := hn₂.keeps hk₃
      have upD : ∀ o, h'.get? D = some o → h₃.get? D = some o := fun o e => hk₃ _ o (hs₂.extBut _ o a2 (hk₁ _ o (fun h => a3 (List.mem_singleton.mp h).symm) e))
      rcases Nat.eq_zero_or_pos i with hz | hz
      · refine add_one (s := { s with heap := h₃, toks := tk₃ }) (upD _ (e0 hz)) fun h₄ tk₄ hs₄ ho₄ => ?_
        refine ⟨vs.length + 1 - (i + 1), by omega, i + 1, h₄, tk₄, _, rfl, ⟨hst₃.1.at fun o e => hs₄.extBut _ o a3 e, hst₃.2.at fun o e => hs₄.extBut _ o hlD e⟩, fun h => absurd h (by omega), fun _ => ho₄, hn₃.sameBut hs₄ (Ne.symm a2), fun b o e => hs₄.extBut b o (low b o e).2.1 (st3 b o e), hlt2, rfl⟩
      · refine add_two (s := { s with heap := h₃, toks := tk₃ }) (upD _ (e1 hz)) fun tk₄ => ?_
        exact ⟨vs.length + 1 - (i + 1), by omega, i + 1, h₃, tk₄, _, rfl, hst₃, fun h => absurd h (by omega), fun _ => upD _ (e1 hz), hn₃, st3, hlt2, rfl⟩
    · have hin : i = vs.length := by omega
      subst hin
      refine W.done _ _ _ (by rw [List.size_toArray]; exact hst') fun h₁ tk₁ hk₁ => ?_
      have st1 : Stays s.heap h₁ := fun b o e => hk₁ b o (fun h => (low b o e).1 (List.mem_singleton.mp h)) (st' b o e)
      refine ⟨m', hn'.at' fun o e => hk₁ _ o (fun h => a1 (List.mem_singleton.mp h).symm) e, fun h'' hs'' => hQ D h'' _ hDn (hs''.extBut _ _ a2 (hk₁ _ _ (fun h => a3 (List.mem_singleton.mp h).symm) (e1 hn))) fun b o e => hs''.extBut b o (low b o e).2.2 (st1 b o e)⟩
  exact start_set (loop _ rfl) (W.self 0 _ _ _ hst1 (loop _ rfl))
end
end Mine
end

section
open PySem PySem.W PyProof.Rows
namespace Mine
local macro_rules | `(tactic| walk_at "no goal") => `(tactic| skip)
theorem freshSL : True ∧ True := by
  k_with_none
  w_top off
  first | (walk1; done) | exact ⟨trivial, trivial⟩
end Mine
end

/-! part SL -/
section
open PySem PySem.W PySem.W.X PyProof.Rows PySem.Calls
set_option maxRecDepth 100000
set_option maxHeartbeats 4000000
namespace Mine
def allB : Nat → List (List Bool)
  | 0 => [[]]
  | n + 1 => [] :: (allB n).flatMap fun l => [true :: l, false :: l]
theorem mem_allB : ∀ {n : Nat} {l : List Bool}, l.length ≤ n → l ∈ allB n
  | 0, [], _ => .head _
  | n + 1, [], _ => .head _
  | n + 1, b :: l, h => by
    refine .tail _ (List.mem_flatMap.mpr ⟨l, mem_allB (Nat.le_of_succ_le_succ h), ?_⟩)
    cases b
    · exact .tail _ (.head _)
    · exact .head _
theorem split_all : ∀ l ∈ allB 5, l ≠ [] → Txt.split (pth l) (Str.ofString "/") = Str.ofString "" :: l.map nmOf := by decide +kernel
theorem starts_all : ∀ l ∈ allB 5, l ≠ [] → Txt.startswith (pth l) (Str.ofString "/") = true := by decide +kernel
theorem split_pth {l : List Bool} (h : l.length ≤ 5) (hn : l ≠ []) : Txt.split (pth l) (Str.ofString "/") = Str.ofString "" :: l.map nmOf := split_all l (mem_allB h) hn
theorem pth_starts {l : List Bool} (h : l.length ≤ 5) (hn : l ≠ []) : Txt.startswith (pth l) (Str.ofString "/") = true := starts_all l (mem_allB h) hn
theorem join_all : ∀ l ∈ allB 5, Str.ofString "/" ++ Txt.join (Str.ofString "/") (l.map nmOf) = if l.isEmpty then Str.ofString "/" else pth l := by decide +kernel
theorem join_pth {l : List Bool} (h : l.length ≤ 5) : Str.ofString "/" ++ Txt.join (Str.ofString "/") (l.map nmOf) = if l.isEmpty then Str.ofString "/" else pth l := join_all l (mem_allB h)
section
variable {prog : Program} {w : World} {A : Around} {E : Value → Shared → Prop} {s : Shared} {a : Addr}
theorem assign_one {env : Env} {elts : List Expr} {x1} {pos : Pos} {ep : Nat} {Q : Unit → Shared → Prop} (hh : A.handled = none) (ho : s.heap.get? a = some (oneSet ep (ledIn w)))
    (hn : (assignEach elts env).length = 1) (hstar : (assignEach elts env).findIdx? (·.1) = none)
    (h : ∀ h', Stays s.heap h' → wpAny (model prog w) A (assignInOrder ((assignEach elts env).map (·.2)) [.bool true]) Q E { s with heap := h' }) :
    wpAny (model prog w) A (assign (.Tuple elts x1 pos) env (.ref a)) Q E s := by
  rw [arm_assign_Tuple]
  refine wpAny_bind (wpAny_standAt ?_)
  unfold unpack
  rw [hn, hstar]
  exact wpAny_bind (wpAny_holding (unpack_one hh ho h))
end
end Mine
end

section
open PySem PySem.W PyProof.Rows
namespace Mine
local macro_rules | `(tactic| walk_at "no goal") => `(tactic| skip)
theorem freshLE : True ∧ True := by
  k_with_none
  w_top off
  first | (walk1; done) | exact ⟨trivial, trivial⟩
end Mine
end

/-! part LE -/
section
open PySem PySem.W PySem.W.X PyProof.Rows PySem.Calls
set_option maxRecDepth 100000
set_option maxHeartbeats 4000000
namespace Mine
/-- two values that compare equal: texts, or None -/
def SameV (x y : Value) : Prop := (∃ a t u, x = .str a t ∧ y = .str a u) ∨ (x = .none ∧ y = .none)
section
variable {prog : Program} {w : World} {A : Around} {E : Value → Shared → Prop} {s : Shared}
theorem same_eq {x y : Value} {Q : Bool → Shared → Prop} (h : SameV x y) (q : Q true s) : wpAny (model prog w) A (eqBool x y) Q E s := by
  rcases h with ⟨a, t, u, rfl, rfl⟩ | ⟨rfl, rfl⟩
  · exact wpAny_eqBool_str (by rw [decide_eq_true rfl]; exact q)
  · unfold eqBool
    rw [if_pos (by decide)]
    exact wpAny_holding (wpAny_bind (wpAny_rule (wpAny_pure q)))
theorem eq_loop_step {a b : Addr} {xs ys : Array Value} {i : Nat} {code : Int} {op : CmpOp} {R : Result → Shared → Prop} {x y : Value} (hop : code.toNat = 0 ∧ op = .Lt ∨ code.toNat = 2 ∧ op = .Eq ∨ code.toNat = 3 ∧ op = .NotEq ∨ code.toNat = 4 ∧ op = .Gt)
    (ha : s.heap.IsList a xs) (hb : s.heap.IsList b ys) (hx : xs[i]? = some x) (hy : ys[i]? = some y) (hs : SameV x y)
    (h : codeAny (model prog w) A (.builtin "list.__eq__.loop" ⟨[.ref a, .ref b, .int (i + 1) 0, .int code 0], []⟩) R s) :
    codeAny (model prog w) A (.builtin "list.__eq__.loop" ⟨[.ref a, .ref b, .int i 0, .int code 0], []⟩) R s := by
  refine Classical.byContradiction fun hn9 => ?_
  obtain ⟨oa, ga, _, na, da⟩ := ha
  refine hn9 ?_
  clear hn9
  refine Classical.byContradiction fun hn9 => ?_
  obtain ⟨ob, gb, _, nb, db⟩ := hb
  refine hn9 ?_
  clear hn9
  refine codeAny_builtin MeetsSeq3.entry_eq_loop ?_
  rw [Around.under_plainId MeetsSeq3.plain_eq_loop _]
  unfold Builtin.«list.__eq__.loop»
  dsimp only
  rcases hop with ⟨e, _⟩ | ⟨e, _⟩ | ⟨e, _⟩ | ⟨e, _⟩
  all_goals
    rw [e]
    show wpAny _ _ (Builtin.List.listItems (.ref a) >>= _) _ _ _
    refine wpAny_bind (wpAny_listItems ga da ?_)
    refine wpAny_bind (wpAny_listItems gb db ?_)
    rw [Int.toNat_natCast, hx, hy]
    dsimp only
    refine wpAny_bind (same_eq hs ?_)
    rw [if_pos rfl]
    exact wpAny_bind (wpAny_pure (wpAny_pure ⟨plainId_quiet MeetsSeq3.plain_eq_loop _, h⟩))
theorem eq_loop_to {a b : Addr} {xs ys : Array Value} {code : Int} {op : CmpOp} {R : Result → Shared → Prop} {n : Nat} (hop : code.toNat = 0 ∧ op = .Lt ∨ code.toNat = 2 ∧ op = .Eq ∨ code.toNat = 3 ∧ op = .NotEq ∨ code.toNat = 4 ∧ op = .Gt)
    (ha : s.heap.IsList a xs) (hb : s.heap.IsList b ys) (same : ∀ j, j < n → ∃ x y, xs[j]? = some x ∧ ys[j]? = some y ∧ SameV x y)
    (h : codeAny (model prog w) A (.builtin "list.__eq__.loop" ⟨[.ref a, .ref b, .int n 0, .int code 0], []⟩) R s) :
    ∀ k i, n - i = k → i ≤ n → codeAny (model prog w) A (.builtin "list.__eq__.loop" ⟨[.ref a, .ref b, .int i 0, .int code 0], []⟩) R s := by
  intro k
  induction k with
  | zero =>
    intro i hk hi
    have : i = n := by omega
    subst this
    exact h
  | succ k ih =>
    intro i hk hi
    refine Classical.byContradiction fun hn9 => ?_
    obtain ⟨x, y, hx, hy, hs⟩ := same i (by omega)
    refine hn9 ?_
    clear hn9
    refine eq_loop_step hop ha hb hx hy hs ?_
    have := ih (i + 1) (by omega) (by omega)
    exact this
theorem eq_loop_end {a b : Addr} {xs ys : Array Value} {code : Int} {R : Result → Shared → Prop} {n : Nat} (hop : code = 2 ∨ code = 3)
    (ha : s.heap.IsList a xs) (hb : s.heap.IsList b ys) (h1 : xs.size = n) (h2 : ys.size = n) (h : R (.ok (.ret (.bool (decide (code = 2))))) s) :
    codeAny (model prog w) A (.builtin "list.__eq__.loop" ⟨[.ref a, .ref b, .int n 0, .int code 0], []⟩) R s := by
  refine Classical.byContradiction fun hn9 => ?_
  obtain ⟨oa, ga, _, na, da⟩ := ha
  refine hn9 ?_
  clear hn9
  refine Classical.byContradiction fun hn9 => ?_
  obtain ⟨ob, gb, _, nb, db⟩ := hb
  refine hn9 ?_
  clear hn9
  refine codeAny_builtin MeetsSeq3.entry_eq_loop ?_
  rw [Around.under_plainId MeetsSeq3.plain_eq_loop _]
  unfold Builtin.«list.__eq__.loop»
  dsimp only
  have e1 : xs[n]? = none := by simp [h1]
  have e2 : ys[n]? = none := by simp [h2]
  rcases hop with rfl | rfl
  all_goals
    show wpAny _ _ (Builtin.List.listItems (.ref a) >>= _) _ _ _
    refine wpAny_bind (wpAny_listItems ga da ?_)
    refine wpAny_bind (wpAny_listItems gb db ?_)
    rw [Int.toNat_natCast, e1, e2]
    dsimp only
    show wpAny _ _ (Builtin.List.listItems (.ref a) >>= _) _ _ _
    refine wpAny_bind (wpAny_listItems ga da ?_)
    refine wpAny_bind (wpAny_listItems gb db ?_)
  · show wpAny _ _ (ret (.bool (xs.size == ys.size))) _ _ _
    rw [h1, h2, beq_self_eq_true]
    exact wpAny_pure h
  · show wpAny _ _ (ret (.bool (xs.size != ys.size))) _ _ _
    rw [h1, h2, bne_self_eq_false]
    exact wpAny_pure h
section
local macro_rules | `(tactic| x_close) => `(tactic| assumption)
theorem ba_lt {t u : Tok} {Q : Value → Shared → Prop} (fin : Q (.bool false) s) : wpAny (model prog w) A (PySem.call (.builtin "str.__lt__") [.str (Str.ofString "b") t, .str (Str.ofString "a") u]) Q E s := by
  x_run
theorem ba_gt {t u : Tok} {Q : Value → Shared → Prop} (fin : Q (.bool true) s) : wpAny (model prog w) A (PySem.call (.builtin "str.__gt__") [.str (Str.ofString "b") t, .str (Str.ofString "a") u]) Q E s := by
  x_run
end
theorem eq_loop_diff {a b : Addr} {xs ys : Array Value} {op : CmpOp} {code : Int} {R : Result → Shared → Prop} {n : Nat} {t u : Tok} (hop : code = 0 ∧ op = .Lt ∨ code = 4 ∧ op = .Gt) (hu : A.in1.units < cLine)
    (ha : s.heap.IsList a xs) (hb : s.heap.IsList b ys) (hx : xs[n]? = some (.str (Str.ofString "b") t)) (hy : ys[n]? = some (.str (Str.ofString "a") u)) (h : R (.ok (.ret (.bool (decide (op = .Gt))))) s) :
    codeAny (model prog w) A (.builtin "list.__eq__.loop" ⟨[.ref a, .ref b, .int n 0, .int code 0], []⟩) R s := by
  refine Classical.byContradiction fun hn9 => ?_
  obtain ⟨oa, ga, _, na, da⟩ := ha
  refine hn9 ?_
  clear hn9
  refine Classical.byContradiction fun hn9 => ?_
  obtain ⟨ob, gb, _, nb, db⟩ := hb
  refine hn9 ?_
  clear hn9
  refine codeAny_builtin MeetsSeq3.entry_eq_loop ?_
  rw [Around.under_plainId MeetsSeq3.plain_eq_loop _]
  unfold Builtin.«list.__eq__.loop»
  dsimp only
  have hne : decide (Str.ofString "b" = Str.ofString "a") = false := by decide +kernel
  rcases hop with ⟨rfl, rfl⟩ | ⟨rfl, rfl⟩
  all_goals
    show wpAny _ _ (Builtin.List.listItems (.ref a) >>= _) _ _ _
    refine wpAny_bind (wpAny_listItems ga da ?_)
    refine wpAny_bind (wpAny_listItems gb db ?_)
    rw [Int.toNat_natCast, hx, hy]
    dsimp only
    refine wpAny_bind (wpAny_eqBool_str ?_)
    rw [hne, if_neg Bool.false_ne_true]
    refine wpAny_bind (wpAny_listItems ga da ?_)
    refine wpAny_bind (wpAny_listItems gb db ?_)
    rw [hx, hy]
    dsimp only
  · refine wpAny_bind (wpAny_richCompare_same_room (T := "str") rfl rfl F.slot_str_lt (ba_lt ⟨by simp, ?_⟩) hu)
    exact wpAny_pure h
  · refine wpAny_bind (wpAny_richCompare_same_room (T := "str") rfl rfl F.slot_str_gt (ba_gt ⟨by simp, ?_⟩) hu)
    exact wpAny_pure h
theorem slot_tree {T : String} {name : Str} {id : String} {b : Builtin} {self : Value} {rest : List Value} {Q : Value → Shared → Prop} (h : Slot T name id) (hT : s.TypeIs self T) (hb : entryFor table id = some b) (ha : argsOk id ⟨self :: rest, []⟩)
    (hc : wpAny (model prog w) A.in1 (b ⟨self :: rest, []⟩) (fun fin s' => match fin with
      | .done f => (match (Except.ok f : Result) with | .ok (.ret v) => Q v s' | .ok _ => False | .error e => E e s')
      | .again c' => c'.quiet = true ∧ codeAny (model prog w) A c' (fun r s' => match r with | .ok (.ret v) => Q v s' | .ok _ => False | .error e => E e s') s') E s) :
    wpAny (model prog w) A (call (.builtin id) (self :: rest)) Q E s :=
  wpAny_call (codeAny_call_builtin h.plain hb (h.check _ _ _ _ _ _ _ _ hT ha hc))
theorem list_order {a b : Addr} {xs ys : Array Value} {op : CmpOp} {Q : Value → Shared → Prop} {n : Nat} {t u : Tok} (hop : op = .Lt ∨ op = .Gt) (hu : A.in1.units < cLine) (hu0 : A.units < cLine)
    (ha : s.heap.IsList a xs) (hb : s.heap.IsList b ys) (same : ∀ j, j < n → ∃ x y, xs[j]? = some x ∧ ys[j]? = some y ∧ SameV x y) (hx : xs[n]? = some (.str (Str.ofString "b") t)) (hy : ys[n]? = some (.str (Str.ofString "a") u))
    (h : Q (.bool (decide (op = .Gt))) s) : wpAny (model prog w) A (richCompare op (.ref a) (.ref b)) Q E s := by
  have hTa : s.TypeIs (.ref a) "list" := ha.typeIs
  have hTb : s.TypeIs (.ref b) "list" := hb.typeIs
  rcases hop with rfl | rfl
  · refine wpAny_richCompare_same_room hTa hTb F.slot_list_lt (slot_tree F.slot_list_lt hTa F.entry_list_lt (F.args_list_lt_2 _ _) ?_) hu0
    show wpAny _ _ (isInstance (.ref b) (.type "list") >>= _) _ _ _
    refine wpAny_bind (wpAny_isInstance (T := "list") (b := true) hTb sub_list_self ?_)
    dsimp only
    rw [if_neg (by decide), if_neg (by decide)]
    refine wpAny_pure ⟨plainId_quiet MeetsSeq3.plain_eq_loop _, ?_⟩
    refine eq_loop_to (code := 0) (.inl ⟨rfl, rfl⟩) ha hb same (eq_loop_diff (code := 0) (.inl ⟨rfl, rfl⟩) hu ha hb hx hy ⟨by simp, h⟩) n 0 (Nat.sub_zero _) (Nat.zero_le _)
  · refine wpAny_richCompare_same_room hTa hTb F.slot_list_gt (slot_tree F.slot_list_gt hTa F.entry_list_gt (F.args_list_gt_2 _ _) ?_) hu0
    show wpAny _ _ (isInstance (.ref b) (.type "list") >>= _) _ _ _
    refine wpAny_bind (wpAny_isInstance (T := "list") (b := true) hTb sub_list_self ?_)
    dsimp only
    rw [if_neg (by decide), if_neg (by decide)]
    refine wpAny_pure ⟨plainId_quiet MeetsSeq3.plain_eq_loop _, ?_⟩
    refine eq_loop_to (code := 4) (.inr (.inr (.inr ⟨rfl, rfl⟩))) ha hb same (eq_loop_diff (code := 4) (.inr ⟨rfl, rfl⟩) hu ha hb hx hy ⟨by simp, h⟩) n 0 (Nat.sub_zero _) (Nat.zero_le _)
/-- two lists of the same texts -/
theorem list_same {a b : Addr} {xs ys : Array Value} {op : CmpOp} {Q : Value → Shared → Prop} {n : Nat} (hop : op = .Eq ∨ op = .NotEq) (hu0 : A.units < cLine)
    (ha : s.heap.IsList a xs) (hb : s.heap.IsList b ys) (h1 : xs.size = n) (h2 : ys.size = n) (same : ∀ j, j < n → ∃ x y, xs[j]? = some x ∧ ys[j]? = some y ∧ SameV x y)
    (h : Q (.bool (decide (op = .Eq))) s) : wpAny (model prog w) A (compareOp op (.ref a) (.ref b)) Q E s := by
  have hTa : s.TypeIs (.ref a) "list" := ha.typeIs
  have hTb : s.TypeIs (.ref b) "list" := hb.typeIs
  refine Classical.byContradiction fun hn9 => ?_
  obtain ⟨oa, ga, ca, na, da⟩ := id ha
  refine hn9 ?_
  clear hn9
  refine Classical.byContradiction fun hn9 => ?_
  obtain ⟨ob, gb, cb, nb, db⟩ := id hb
  refine hn9 ?_
  clear hn9
  rcases hop with rfl | rfl
  · refine cmp_ofEq (wpAny_richCompare_same_room hTa hTb F.slot_list_eq (slot_tree F.slot_list_eq hTa F.entry_list_eq (F.args_list_eq_2 _ _) ?_) hu0)
    show wpAny _ _ (isInstance (.ref b) (.type "list") >>= _) _ _ _
    refine wpAny_bind (wpAny_isInstance (T := "list") (b := true) hTb sub_list_self ?_)
    dsimp only
    rw [if_neg (by decide), if_pos (by decide)]
    refine wpAny_bind (wpAny_listItems ga da ?_)
    refine wpAny_bind (wpAny_listItems gb db ?_)
    rw [h1, h2, bne_self_eq_false, if_neg Bool.false_ne_true]
    refine wpAny_pure ⟨plainId_quiet MeetsSeq3.plain_eq_loop _, ?_⟩
    exact eq_loop_to (code := 2) (.inr (.inl ⟨rfl, rfl⟩)) ha hb same (eq_loop_end (code := 2) (.inl rfl) ha hb h1 h2 ⟨by simp, h⟩) n 0 (Nat.sub_zero _) (Nat.zero_le _)
  · refine cmp_ofNotEq (wpAny_richCompare_same_room hTa hTb F.slot_list_ne (slot_tree F.slot_list_ne hTa F.entry_list_ne (F.args_list_ne_2 _ _) ?_) hu0)
    show wpAny _ _ (isInstance (.ref b) (.type "list") >>= _) _ _ _
    refine wpAny_bind (wpAny_isInstance (T := "list") (b := true) hTb sub_list_self ?_)
    dsimp only
    rw [if_neg (by decide), if_pos (by decide)]
    refine wpAny_bind (wpAny_listItems ga da ?_)
    refine wpAny_bind (wpAny_listItems gb db ?_)
    rw [h1, h2, bne_self_eq_false, if_neg Bool.false_ne_true]
    refine wpAny_pure ⟨plainId_quiet MeetsSeq3.plain_eq_loop _, ?_⟩
    exact eq_loop_to (code := 3) (.inr (.inr (.inl ⟨rfl, rfl⟩))) ha hb same (eq_loop_end (code := 3) (.inr rfl) ha hb h1 h2 ⟨by simp, h⟩) n 0 (Nat.sub_zero _) (Nat.zero_le _)
end
end Mine
end

section
open PySem PySem.W PyProof.Rows
namespace Mine
local macro_rules | `(tactic| walk_at "no goal") => `(tactic| skip)
theorem freshMN : True ∧ True := by
  k_with_none
  w_top off
  first | (walk1; done) | exact ⟨trivial, trivial⟩
end Mine
end

/-! part MN -/
section
open PySem PySem.W PySem.W.X PyProof.Rows PySem.Calls
set_option maxRecDepth 100000
set_option maxHeartbeats 4000000
namespace Mine
section
variable {prog : Program} {w : World} {A : Around} {E : Value → Shared → Prop} {s : Shared}
theorem min_two {l r1 r2 : Addr} {xs ys : Array Value} {n : Nat} {t u : Tok} {Q : Value → Shared → Prop} (hh : A.handled = none) (hu : A.in1.in1.units < cLine) (hu0 : A.in1.units < cLine)
    (hl : s.heap.IsList l #[.ref r1, .ref r2]) (h1 : s.heap.IsList r1 xs) (h2 : s.heap.IsList r2 ys) (same : ∀ j, j < n → ∃ x y, ys[j]? = some x ∧ xs[j]? = some y ∧ SameV x y) (hy : ys[n]? = some (.str (Str.ofString "b") t)) (hx : xs[n]? = some (.str (Str.ofString "a") u))
    (h : ∀ h' tk, Stays s.heap h' → Q (.ref r1) { s with heap := h', toks := tk }) : wpAny (model prog w) A (call (.builtin "min") [.ref l]) Q E s := by
  have hname : (toString "min" ++ toString ".loop" : String) = "min.loop" := by decide
  refine call_function_tree F.kind_min F.plain_min F.entry_min (F.args_min1 _) ?_
  show wpAny _ A.in1 (Builtin.Builtins.bindParams "min" ["key", "default"] 0 ⟨[], []⟩ >>= _) _ _ s
  refine wpAny_bind (wpAny_of_eq (show Builtin.Builtins.bindParams "min" ["key", "default"] 0 ⟨[], []⟩ = pure [none, none] from rfl) ?_)
  refine wpAny_bind (wpAny_pure ?_)
  refine wpAny_bind (wpAny_pyIter_list hl ?_)
  refine wpAny_bind (wpAny_newObj_type ?_)
  rw [hname]
  refine wpAny_pure ⟨plainId_quiet F.plain_min_loop _, ?_⟩
  have hsz : (s.heap.push { cls := .type "list_iterator", data := .fields #[.ref l, .int 0 0] }).objs.size = s.heap.objs.size + 1 := Heap.size_push ..
  dsimp only
  have hit : ((s.heap.push { cls := .type "list_iterator", data := .fields #[.ref l, .int 0 0] }).push { cls := .type "list", data := .seq ([] : List Value).toArray }).IsListIter s.heap.objs.size l 0 := ⟨_, Heap.get?_push_of_some _ (Heap.get?_push_size _ rfl), rfl, rfl⟩
  have hS : ((s.heap.push { cls := .type "list_iterator", data := .fields #[.ref l, .int 0 0] }).push { cls := .type "list", data := .seq ([] : List Value).toArray }).get? (s.heap.push { cls := .type "list_iterator", data := .fields #[.ref l, .int 0 0] }).objs.size = some { cls := .type "list", data := .seq ([] : List Value).toArray } := Heap.get?_push_size _ rfl
  have old : Stays s.heap ((s.heap.push { cls := .type "list_iterator", data := .fields #[.ref l, .int 0 0] }).push { cls := .type "list", data := .seq ([] : List Value).toArray }) := fun b o e => Heap.get?_push_of_some _ (Heap.get?_push_of_some _ e)
  have hIS : s.heap.objs.size ≠ (s.heap.push { cls := .type "list_iterator", data := .fields #[.ref l, .int 0 0] }).objs.size := by rw [hsz]; exact Nat.ne_of_lt (Nat.lt_succ_self _)
  have low : ∀ b o, s.heap.get? b = some o → b ≠ s.heap.objs.size ∧ b ≠ (s.heap.push { cls := .type "list_iterator", data := .fields #[.ref l, .int 0 0] }).objs.size := fun b o e => by
    have := Heap.lt_size e
    exact ⟨Nat.ne_of_lt this, Nat.ne_of_lt (by rw [hsz]; exact Nat.lt_succ_of_lt this)⟩
  generalize ((s.heap.push { cls := .type "list_iterator", data := .fields #[.ref l, .int 0 0] }).push { cls := .type "list", data := .seq ([] : List Value).toArray }) = H0 at *
  generalize (s.heap.push { cls := .type "list_iterator", data := .fields #[.ref l, .int 0 0] }).objs.size = S at *
  generalize s.heap.objs.size = I at *
  clear hsz
  refine codeAny_builtin F.entry_min_loop ?_
  rw [Around.under_plainId F.plain_min_loop _]
  show wpAny _ A.in1 (seqItems? (.ref S) >>= _) _ _ _
  refine wpAny_bind (wpAny_seqItems (s := { s with heap := H0 }) hS rfl ?_)
  show wpAny _ A.in1 (tryCatch (pyNext (.ref I)) _ >>= _) _ _ _
  refine wpAny_bind (wpAny_tryCatch (wpAny_pyNext_list_item (s := { s with heap := H0 }) hit (hl.at fun o e => old _ _ e) (x := .ref r1) rfl fun H1 hit1 s1 => ?_))
  have hS1 := s1.extBut S _ (Ne.symm hIS) hS
  have old1 : Stays s.heap H1 := fun b o e => s1.extBut b o (low b o e).1 (old b o e)
  refine wpAny_bind (wpAny_pure ?_)
  show wpAny _ A.in1 (updateSeq S (fun _ => #[Value.ref r1, Value.ref r1]) >>= _) _ _ _
  refine wpAny_bind (wpAny_updateSeq (s := { s with heap := H1 }) hS1 rfl ?_)
  rw [hname]
  refine wpAny_pure ⟨plainId_quiet F.plain_min_loop _, ?_⟩
  have hS2 := Heap.get?_update_self (Obj.mapSeq (fun _ => #[Value.ref r1, Value.ref r1])) hS1 rfl
  have old2 : Stays s.heap (H1.update S (Obj.mapSeq (fun _ => #[Value.ref r1, Value.ref r1]))) := fun b o e => (Heap.get?_update_other _ _ (Ne.symm (low b o e).2)).trans (old1 b o e)
  have hit2 : (H1.update S (Obj.mapSeq (fun _ => #[Value.ref r1, Value.ref r1]))).IsListIter I l 1 := hit1.at fun o e => (Heap.get?_update_other _ _ (Ne.symm hIS)).trans e
  generalize H1.update S (Obj.mapSeq (fun _ => #[Value.ref r1, Value.ref r1])) = H2 at *
  refine codeAny_builtin F.entry_min_loop ?_
  rw [Around.under_plainId F.plain_min_loop _]
  show wpAny _ A.in1 (seqItems? (.ref S) >>= _) _ _ _
  refine wpAny_bind (wpAny_seqItems (s := { s with heap := H2 }) hS2 rfl ?_)
  show wpAny _ A.in1 (tryCatch (pyNext (.ref I)) _ >>= _) _ _ _
  refine wpAny_bind (wpAny_tryCatch (wpAny_pyNext_list_item (s := { s with heap := H2 }) hit2 (hl.at fun o e => old2 _ _ e) (x := .ref r2) rfl fun H3 hit3 s3 => ?_))
  have hS3 := s3.extBut S _ (Ne.symm hIS) hS2
  have old3 : Stays s.heap H3 := fun b o e => s3.extBut b o (low b o e).1 (old2 b o e)
  show wpAny _ A.in1 (tryCatch (holding [.ref r2, .ref r2] (richCompare .Lt (.ref r2) (.ref r1) >>= _)) _ >>= _) _ _ _
  refine wpAny_bind (wpAny_tryCatch (wpAny_holding (wpAny_bind (list_order (s := { s with heap := H3 }) (by exact .inl rfl) hu hu0 (h2.at fun o e => old3 _ _ e) (h1.at fun o e => old3 _ _ e) same hy hx ?_))))
  refine wpAny_bind (wpAny_holding (wpAny_truthy_bool ?_))
  refine wpAny_bind (wpAny_letGo (wpAny_pure ?_))
  simp only [show decide (CmpOp.Lt = CmpOp.Gt) = false by decide, Bool.false_eq_true, if_false]
  refine wpAny_bind (wpAny_letGo ?_)
  rw [hname]
  refine wpAny_pure ⟨plainId_quiet F.plain_min_loop _, ?_⟩
  have hS4 := hS3
  have old4 := old3
  have hit4 := hit3
  generalize H3 = H4 at hS4 old4 hit4 ⊢
  refine codeAny_builtin F.entry_min_loop ?_
  rw [Around.under_plainId F.plain_min_loop _]
  show wpAny _ A.in1 (seqItems? (.ref S) >>= _) _ _ _
  refine wpAny_bind (wpAny_seqItems (s := { s with heap := H4 }) hS4 rfl ?_)
  show wpAny _ A.in1 (tryCatch (pyNext (.ref I)) _ >>= _) _ _ _
  refine wpAny_bind (wpAny_tryCatch (wpAny_pyNext_list_end (s := { s with heap := H4 }) hh hit4 (hl.at fun o e => old4 _ _ e) rfl fun H5 s5 => ?_))
  have hS5 := s5 S _ (Ne.symm hIS) hS4
  show wpAny _ A.in1 (updateSeq S (fun _ => #[]) >>= _) _ _ _
  refine wpAny_bind ?_
  refine wpAny_updateSeq (s := { s with heap := H5 }) hS5 rfl (wpAny_bind (wpAny_letGo (wpAny_pure ?_)))
  exact h _ _ fun b o e => (Heap.get?_update_other _ _ (Ne.symm (low b o e).2)).trans (s5 b o (low b o e).1 (old4 b o e))

theorem max_two {l r1 r2 : Addr} {xs ys : Array Value} {n : Nat} {t u : Tok} {Q : Value → Shared → Prop} (hh : A.handled = none) (hu : A.in1.in1.units < cLine) (hu0 : A.in1.units < cLine)
    (hl : s.heap.IsList l #[.ref r1, .ref r2]) (h1 : s.heap.IsList r1 xs) (h2 : s.heap.IsList r2 ys) (same : ∀ j, j < n → ∃ x y, ys[j]? = some x ∧ xs[j]? = some y ∧ SameV x y) (hy : ys[n]? = some (.str (Str.ofString "b") t)) (hx : xs[n]? = some (.str (Str.ofString "a") u))
    (h : ∀ h' tk, Stays s.heap h' → Q (.ref r2) { s with heap := h', toks := tk }) : wpAny (model prog w) A (call (.builtin "max") [.ref l]) Q E s := by
  have hname : (toString "max" ++ toString ".loop" : String) = "max.loop" := by decide
  refine call_function_tree F.kind_max F.plain_max F.entry_max (F.args_max1 _) ?_
  show wpAny _ A.in1 (Builtin.Builtins.bindParams "max" ["key", "default"] 0 ⟨[], []⟩ >>= _) _ _ s
  refine wpAny_bind (wpAny_of_eq (show Builtin.Builtins.bindParams "max" ["key", "default"] 0 ⟨[], []⟩ = pure [none, none] from rfl) ?_)
  refine wpAny_bind (wpAny_pure ?_)
  refine wpAny_bind (wpAny_pyIter_list hl ?_)
  refine wpAny_bind (wpAny_newObj_type ?_)
  rw [hname]
  refine wpAny_pure ⟨plainId_quiet F.plain_max_loop _, ?_⟩
  have hsz : (s.heap.push { cls := .type "list_iterator", data := .fields #[.ref l, .int 0 0] }).objs.size = s.heap.objs.size + 1 := Heap.size_push ..
  dsimp only
  have hit : ((s.heap.push { cls := .type "list_iterator", data := .fields #[.ref l, .int 0 0] }).push { cls := .type "list", data := .seq ([] : List Value).toArray }).IsListIter s.heap.objs.size l 0 := ⟨_, Heap.get?_push_of_some _ (Heap.get?_push_size _ rfl), rfl, rfl⟩
  have hS : ((s.heap.push { cls := .type "list_iterator", data := .fields #[.ref l, .int 0 0] }).push { cls := .type "list", data := .seq ([] : List Value).toArray }).get? (s.heap.push { cls := .type "list_iterator", data := .fields #[.ref l, .int 0 0] }).objs.size = some { cls := .type "list", data := .seq ([] : List Value).toArray } := Heap.get?_push_size _ rfl
  have old : Stays s.heap ((s.heap.push { cls := .type "list_iterator", data := .fields #[.ref l, .int 0 0] }).push { cls := .type "list", data := .seq ([] : List Value).toArray }) := fun b o e => Heap.get?_push_of_some _ (Heap.get?_push_of_some _ e)
  have hIS : s.heap.objs.size ≠ (s.heap.push { cls := .type "list_iterator", data := .fields #[.ref l, .int 0 0] }).objs.size := by rw [hsz]; exact Nat.ne_of_lt (Nat.lt_succ_self _)
  have low : ∀ b o, s.heap.get? b = some o → b ≠ s.heap.objs.size ∧ b ≠ (s.heap.push { cls := .type "list_iterator", data := .fields #[.ref l, .int 0 0] }).objs.size := fun b o e => by
    have := Heap.lt_size e
    exact ⟨Nat.ne_of_lt this, Nat.ne_of_lt (by rw [hsz]; exact Nat.lt_succ_of_lt this)⟩
  generalize ((s.heap.push { cls := .type "list_iterator", data := .fields #[.ref l, .int 0 0] }).push { cls := .type "list", data := .seq ([] : List Value).toArray }) = H0 at *
  generalize (s.heap.push { cls := .type "list_iterator", data := .fields #[.ref l, .int 0 0] }).objs.size = S at *
  generalize s.heap.objs.size = I at *
  clear hsz
  refine codeAny_builtin F.entry_max_loop ?_
  rw [Around.under_plainId F.plain_max_loop _]
  show wpAny _ A.in1 (seqItems? (.ref S) >>= _) _ _ _
  refine wpAny_bind (wpAny_seqItems (s := { s with heap := H0 }) hS rfl ?_)
  show wpAny _ A.in1 (tryCatch (pyNext (.ref I)) _ >>= _) _ _ _
  refine wpAny_bind (wpAny_tryCatch (wpAny_pyNext_list_item (s := { s with heap := H0 }) hit (hl.at fun o e => old _ _ e) (x := .ref r1) rfl fun H1 hit1 s1 => ?_))
  have hS1 := s1.extBut S _ (Ne.symm hIS) hS
  have old1 : Stays s.heap H1 := fun b o e => s1.extBut b o (low b o e).1 (old b o e)
  refine wpAny_bind (wpAny_pure ?_)
  show wpAny _ A.in1 (updateSeq S (fun _ => #[Value.ref r1, Value.ref r1]) >>= _) _ _ _
  refine wpAny_bind (wpAny_updateSeq (s := { s with heap := H1 }) hS1 rfl ?_)
  rw [hname]
  refine wpAny_pure ⟨plainId_quiet F.plain_max_loop _, ?_⟩
  have hS2 := Heap.get?_update_self (Obj.mapSeq (fun _ => #[Value.ref r1, Value.ref r1])) hS1 rfl
  have old2 : Stays s.heap (H1.update S (Obj.mapSeq (fun _ => #[Value.ref r1, Value.ref r1]))) := fun b o e => (Heap.get?_update_other _ _ (Ne.symm (low b o e).2)).trans (old1 b o e)
  have hit2 : (H1.update S (Obj.mapSeq (fun _ => #[Value.ref r1, Value.ref r1]))).IsListIter I l 1 := hit1.at fun o e => (Heap.get?_update_other _ _ (Ne.symm hIS)).trans e
  generalize H1.update S (Obj.mapSeq (fun _ => #[Value.ref r1, Value.ref r1])) = H2 at *
  refine codeAny_builtin F.entry_max_loop ?_
  rw [Around.under_plainId F.plain_max_loop _]
  show wpAny _ A.in1 (seqItems? (.ref S) >>= _) _ _ _
  refine wpAny_bind (wpAny_seqItems (s := { s with heap := H2 }) hS2 rfl ?_)
  show wpAny _ A.in1 (tryCatch (pyNext (.ref I)) _ >>= _) _ _ _
  refine wpAny_bind (wpAny_tryCatch (wpAny_pyNext_list_item (s := { s with heap := H2 }) hit2 (hl.at fun o e => old2 _ _ e) (x := .ref r2) rfl fun H3 hit3 s3 => ?_))
  have hS3 := s3.extBut S _ (Ne.symm hIS) hS2
  have old3 : Stays s.heap H3 := fun b o e => s3.extBut b o (low b o e).1 (old2 b o e)
  show wpAny _ A.in1 (tryCatch (holding [.ref r2, .ref r2] (richCompare .Gt (.ref r2) (.ref r1) >>= _)) _ >>= _) _ _ _
  refine wpAny_bind (wpAny_tryCatch (wpAny_holding (wpAny_bind (list_order (s := { s with heap := H3 }) (by exact .inr rfl) hu hu0 (h2.at fun o e => old3 _ _ e) (h1.at fun o e => old3 _ _ e) same hy hx ?_))))
  refine wpAny_bind (wpAny_holding (wpAny_truthy_bool ?_))
  refine wpAny_bind (wpAny_letGo (wpAny_pure ?_))
  simp only [show decide (CmpOp.Gt = CmpOp.Gt) = true by decide, if_true]
  refine wpAny_bind ?_
  refine wpAny_updateSeq (s := { s with heap := H3 }) hS3 rfl (wpAny_bind (wpAny_letGo ?_))
  rw [hname]
  refine wpAny_pure ⟨plainId_quiet F.plain_max_loop _, ?_⟩
  have hS4 := Heap.get?_update_self (Obj.mapSeq (fun _ => #[Value.ref r2, Value.ref r2])) hS3 rfl
  have old4 : Stays s.heap (H3.update S (Obj.mapSeq (fun _ => #[Value.ref r2, Value.ref r2]))) := fun b o e => (Heap.get?_update_other _ _ (Ne.symm (low b o e).2)).trans (old3 b o e)
  have hit4 : (H3.update S (Obj.mapSeq (fun _ => #[Value.ref r2, Value.ref r2]))).IsListIter I l 2 := hit3.at fun o e => (Heap.get?_update_other _ _ (Ne.symm hIS)).trans e
  generalize H3.update S (Obj.mapSeq (fun _ => #[Value.ref r2, Value.ref r2])) = H4 at *
  refine codeAny_builtin F.entry_max_loop ?_
  rw [Around.under_plainId F.plain_max_loop _]
  show wpAny _ A.in1 (seqItems? (.ref S) >>= _) _ _ _
  refine wpAny_bind (wpAny_seqItems (s := { s with heap := H4 }) hS4 rfl ?_)
  show wpAny _ A.in1 (tryCatch (pyNext (.ref I)) _ >>= _) _ _ _
  refine wpAny_bind (wpAny_tryCatch (wpAny_pyNext_list_end (s := { s with heap := H4 }) hh hit4 (hl.at fun o e => old4 _ _ e) rfl fun H5 s5 => ?_))
  have hS5 := s5 S _ (Ne.symm hIS) hS4
  show wpAny _ A.in1 (updateSeq S (fun _ => #[]) >>= _) _ _ _
  refine wpAny_bind ?_
  refine wpAny_updateSeq (s := { s with heap := H5 }) hS5 rfl (wpAny_bind (wpAny_letGo (wpAny_pure ?_)))
  exact h _ _ fun b o e => (Heap.get?_update_other _ _ (Ne.symm (low b o e).2)).trans (s5 b o (low b o e).1 (old4 b o e))
end
end Mine
end

section
open PySem PySem.W PyProof.Rows
namespace Mine
local macro_rules | `(tactic| walk_at "no goal") => `(tactic| skip)
theorem freshEF : True ∧ True := by
  k_with_none
  w_top off
  first | (walk1; done) | exact ⟨trivial, trivial⟩
end Mine
end

/-! part EF -/
section
open PySem PySem.W PySem.W.X PyProof.Rows PySem.Calls
set_option maxRecDepth 100000
set_option maxHeartbeats 4000000
namespace Mine
section
variable {prog : Program} {w : World} {A : Around} {E : Value → Shared → Prop} {s : Shared} {env : Env} {h₀ : Heap} {target : Expr} {body : List Stmt} {Q : Flow → Shared → Prop}
/-- an enumerate's turns by an invariant over the place -/
theorem enum_fold {ws : List (Addr × String)} {keep news : List (Addr × Obj)} {vs : List Value} (J : Nat → (Str → Option Value) → Prop)
    (done : ∀ m h tk, J vs.length m → Fr h₀ env.locals h m → News h₀ env.locals h news → Q .next { s with heap := h, toks := tk })
    (turn : ∀ i v m h tk T t, vs[i]? = some v → J i m → IsTup h T #[.int (i : Int) t, v] → Fr h₀ env.locals h m → AllObj ws (fun its => News h₀ env.locals h (its ++ news) →
      wpAny (model prog w) A (assign target env (.ref T)) (fun _ s₂ => wpAny (model prog w) A (execs body env) (UnrPostW h₀ env.locals { s with heap := h, toks := tk } its (fun m' n' => SubL keep n' ∧ n' = news ∧ J (i + 1) m') Q) E s₂) E { s with heap := h, toks := tk })) :
    ∀ (r i : Nat) (m : Str → Option Value), vs.length - i = r → i ≤ vs.length → J i m → ItemsRest prog w A E h₀ env target body Q s ws keep (enumItems i (vs.drop i)) m news := by
  intro r
  induction r with
  | zero =>
    intro i m hr hi hJ
    have : i = vs.length := by omega
    subst this
    rw [List.drop_length]
    exact ItemsRest.zero fun h' tk F N => done m h' tk hJ F N
  | succ r ih =>
    intro i m hr hi hJ
    have hlt : i < vs.length := by omega
    rw [List.drop_eq_getElem_cons hlt]
    refine ItemsRest.pair fun T t h' tk hT F => ?_
    have tt := turn i vs[i] m h' tk T t (List.getElem?_eq_getElem hlt) hJ hT F
    have up : ∀ (its : List (Addr × Obj)) (f : Flow) (s₂ : Shared), UnrPostW h₀ env.locals { s with heap := h', toks := tk } its (fun m' n' => SubL keep n' ∧ n' = news ∧ J (i + 1) m') Q f s₂ →
        UnrPostW h₀ env.locals { s with heap := h', toks := tk } its (fun m' n' => SubL keep n' ∧ ItemsRest prog w A E h₀ env target body Q s ws keep (enumItems (i + 1) (vs.drop (i + 1))) m' n') Q f s₂ := by
      intro its f s₂ x
      have end_ : UnrEndW h₀ env.locals { s with heap := h', toks := tk } its (fun m' n' => SubL keep n' ∧ n' = news ∧ J (i + 1) m') s₂ → UnrEndW h₀ env.locals { s with heap := h', toks := tk } its (fun m' n' => SubL keep n' ∧ ItemsRest prog w A E h₀ env target body Q s ws keep (enumItems (i + 1) (vs.drop (i + 1))) m' n') s₂ := by
        intro hx9
        refine Classical.byContradiction fun hn9 => ?_
        obtain ⟨h2, tk2, m2, n2, e, F2, N2, off, sub, rfl, j⟩ := hx9
        refine hn9 ?_
        clear hn9
        exact ⟨h2, tk2, m2, _, e, F2, N2, off, sub, ih (i + 1) m2 (by omega) hlt j⟩
      cases f with
      | ret v => exact x
      | brk => exact x
      | next => exact end_ x
      | cont => exact end_ x
    have all : ∀ (ws : List (Addr × String)) (k k' : List (Addr × Obj) → Prop), (∀ its, k its → k' its) → AllObj ws k → AllObj ws k' := by
      intro ws
      induction ws with
      | nil => intro k k' hk x; exact hk _ x
      | cons w ws ih2 => intro k k' hk x o ho; exact ih2 _ _ (fun its y => hk _ y) (x o ho)
    exact all ws _ _ (fun its x N => wpAny_mono (x N) (fun _ s₂ y => wpAny_mono y (fun f s₃ z => up its f s₃ z) fun _ _ e => e) fun _ _ e => e) tt
end
end Mine
end

section
open PySem PySem.W PyProof.Rows
namespace Mine
local macro_rules | `(tactic| walk_at "no goal") => `(tactic| skip)
local macro_rules | `(tactic| walk_at "no goal") => `(tactic| skip)
theorem freshCP : True ∧ True := by
  k_with_none
  w_top off
  first | (walk1; done) | exact ⟨trivial, trivial⟩
end Mine
end

/-! part CP -/
section
open PySem PySem.W PySem.W.X PyProof.Rows PySem.Calls
set_option maxRecDepth 100000
set_option maxHeartbeats 4000000
namespace Mine
local macro_rules | `(tactic| walk_at $s:str) => `(tactic| k_extra $s)
local macro_rules | `(tactic| k_types) => `(tactic| first | with_reducible assumption | (apply And.right; first | with_reducible assumption | (apply And.right; first | with_reducible assumption | (apply And.right; first | with_reducible assumption | (apply And.right; first | with_reducible assumption | (apply And.right; first | with_reducible assumption | (apply And.right; first | with_reducible assumption | (apply And.right; first | with_reducible assumption | (apply And.right; first | with_reducible assumption | (apply And.right; first | with_reducible assumption | (apply And.right; first | with_reducible assumption | (apply And.right; first | with_reducible assumption | (apply And.right; first | with_reducible assumption | (apply And.right; first | with_reducible assumption | (apply And.right; with_reducible assumption)))))))))))))))
local macro_rules | `(tactic| k_ne) => `(tactic| (refine neN ?_; (try dsimp only); first | (first | k_types | (apply And.left; k_types)) | (refine Ne.symm ?_; (first | k_types | (apply And.left; k_types))) | (refine Nat.ne_of_lt ?_; (first | k_types | (apply And.left; k_types))) | (refine Nat.ne_of_gt ?_; (first | k_types | (apply And.left; k_types)))))
local macro_rules | `(tactic| k_room) => `(tactic| ((try simp only [depth_under_make, depth_under_kw, depth_in1, depth_deeper, depth_caller]); first | decide | (have : recursionLimit = 1000 := by decide
                                                                                                                                                                 omega)))
def goodPart (v : Value) : Bool := match v with | .str a _ => a != Str.ofString "" | _ => false
theorem m_neq {x y : Str} {v : Option Value} {m : Str → Option Value} {r : Option Value} (h : (x == y) = false) (q : m x = r) : (fun z => if z = y then v else m z) x = r := by
  have : x ≠ y := fun e => by subst e; simp at h
  dsimp only
  rw [if_neg this]; exact q
theorem m_neq2 {x y z : Str} {v v2 : Option Value} {m : Str → Option Value} {r : Option Value} (h : (x == y) = false) (h2 : (x == z) = false) (q : m x = r) : (fun u => if u = y then v else if u = z then v2 else m u) x = r := by
  have a : x ≠ y := fun e => by subst e; simp at h
  have b : x ≠ z := fun e => by subst e; simp at h2
  dsimp only
  rw [if_neg a, if_neg b]; exact q
def Marker2 : Prop := True
theorem at_parts {k : List (Str × Tok)} {bs : List Bool} (h : k.map (·.1) = bs.map nmOf) {j : Nat} {b : Bool} (hj : bs[j]? = some b) : ∃ t, (strValues k)[j]? = some (.str (nmOf b) t) := by
  have e : (k.map (·.1))[j]? = some (nmOf b) := by rw [h, List.getElem?_map, hj]; rfl
  rw [List.getElem?_map] at e
  obtain ⟨p, hp, hp2⟩ := Option.map_eq_some_iff.mp e
  refine ⟨p.2, ?_⟩
  show (k.map _)[j]? = _
  rw [List.getElem?_map, hp, ← hp2]
  rfl
theorem pick_head {k : List (Str × Tok)} (n : Nat) : kms_pick (strValues k).toArray.toList none (some (n : Int)) = strValues (k.take n) := by
  have e1 : ¬ ((n : Int) < 0) := by omega
  show ((k.map _).drop 0).take _ = (k.take n).map _
  rw [List.drop_zero]
  unfold kms_hi kms_lo
  dsimp only
  rw [if_neg e1, Int.toNat_natCast, List.map_take, Nat.sub_zero]
  show List.take (min n (List.map _ k).length) _ = _
  rw [List.take_eq_take_iff]
  omega
theorem off_two {p q : Addr × Obj} {I : Nat} {o1 o2 : Obj} (h : @LT.lt Nat _ p.1 I) (hq : q ∈ [(I + 1, o1), (I, o2)]) : p.1 ≠ q.1 := by
  rcases List.mem_cons.mp hq with rfl | hq
  · exact Nat.ne_of_lt (Nat.lt_succ_of_lt h)
  · rw [List.mem_singleton.mp hq]; exact Nat.ne_of_lt h
theorem nm_sum : ∀ c : List Bool, ((c.map nmOf).map (·.length)).sum = c.length
  | [] => rfl
  | b :: c => by rw [List.map_cons, List.map_cons, List.sum_cons, nm_sum c, nm_len, List.length_cons]; omega
theorem parts_cases {l : List (Str × Tok)} {bs : List Bool} (h : l.map (·.1) = Str.ofString "" :: bs.map nmOf) {v : Value} (hv : v ∈ strValues l) :
    ∃ a t, v = .str a t ∧ (a = Str.ofString "" ∨ a = Str.ofString "a" ∨ a = Str.ofString "b") := by
  obtain ⟨p, hp, rfl⟩ := List.mem_map.mp hv
  have hm : p.1 ∈ l.map (·.1) := List.mem_map_of_mem hp
  rw [h] at hm
  refine ⟨p.1, p.2, rfl, ?_⟩
  rcases List.mem_cons.mp hm with e | hm
  · exact .inl e
  · obtain ⟨b, _, e⟩ := List.mem_map.mp hm
    cases b
    · exact .inr (.inl e.symm)
    · exact .inr (.inr e.symm)
theorem strValues_inj : ∀ {l k : List (Str × Tok)}, strValues l = strValues k → l = k
  | [], [], _ => rfl
  | [], _ :: _, h => by cases h
  | _ :: _, [], h => by cases h
  | p :: l, q :: k, h => by
    injection h with h1 h2
    injection h1 with h3 h4
    rw [strValues_inj h2, show p = q from Prod.ext h3 h4]
theorem goods {l : List (Str × Tok)} {bs : List Bool} (h : l.map (·.1) = Str.ofString "" :: bs.map nmOf) : ∃ k : List (Str × Tok), (strValues l).filter goodPart = strValues k ∧ k.map (·.1) = bs.map nmOf := by
  cases l with
  | nil => cases h
  | cons p l =>
    obtain ⟨a, t⟩ := p
    injection h with h1 h2
    have h1 : a = Str.ofString "" := h1
    subst h1
    refine ⟨l, ?_, h2⟩
    have g0 : goodPart (.str (Str.ofString "") t) = false := by show (Str.ofString "" != Str.ofString "") = false; decide +kernel
    show List.filter goodPart (Value.str (Str.ofString "") t :: strValues l) = _
    rw [List.filter_cons, g0]
    refine List.filter_eq_self.mpr fun v hv => ?_
    obtain ⟨p, hp, rfl⟩ := List.mem_map.mp hv
    have hm : p.1 ∈ l.map (·.1) := List.mem_map_of_mem hp
    rw [h2] at hm
    obtain ⟨b, _, e⟩ := List.mem_map.mp hm
    show (p.1 != Str.ofString "") = true
    rw [← e]
    cases b <;> decide +kernel
theorem parts_len {l : List (Str × Tok)} {bs : List Bool} (h : l.map (·.1) = Str.ofString "" :: bs.map nmOf) (hb : bs.length ≤ 5) : (strValues l).length ≤ 1000 := by
  have := congrArg List.length h
  rw [List.length_map, List.length_cons, List.length_map] at this
  show (l.map _).length ≤ _
  rw [List.length_map]; omega
theorem paired_same : ∀ {l ys : List Value}, Paired (fun v y => y = v) l ys → ys = l
  | _, _, .nil => rfl
  | _, _, .cons e h => by rw [e, paired_same h]
local macro_rules | `(tactic| x_close) => `(tactic| (repeat' (first | exact if_pos rfl | refine (if_neg (by decide)).trans ?_)))
theorem news_ne {h₀ h : Heap} {L I : Addr} {ns : List (Addr × Obj)} (N : News h₀ L h ns) (hn : h.get? I = none) : ∀ p ∈ ns, p.1 ≠ I := fun p hp e => by
  have := (N p hp).1
  rw [e, hn] at this; cases this
theorem news_cons {h₀ h : Heap} {L a : Addr} {o : Obj} {ns : List (Addr × Obj)} (N : News h₀ L h ns) (x : h.get? a = some o ∧ a ≠ L ∧ h₀.get? a = none) : News h₀ L h ((a, o) :: ns) := fun p hp => by
  rcases List.mem_cons.mp hp with rfl | hp
  · exact x
  · exact N p hp
theorem fr_none {h₀ h : Heap} {L I : Addr} {m : Str → Option Value} (F : Fr h₀ L h m) (hn : h.get? I = none) : h₀.get? I = none ∧ I ≠ L := by
  refine ⟨?_, fun e => ?_⟩
  · cases e : h₀.get? I with
    | none => rfl
    | some o => rw [F.keep _ _ e] at hn; cases hn
  · refine Classical.byContradiction fun hn9 => ?_
    obtain ⟨oL, _, _, e2, _⟩ := F.ns
    refine hn9 ?_
    clear hn9
    rw [← e, hn] at e2; cases e2
section
variable {w : World} {base h₀ : Heap} {env : Env} {E : Value → Shared → Prop} {s : Shared} {L : Addr} {m mg mb : Str → Option Value} {pp : Program} {loose : List Str} {mean : ExcName → Option Value} {Q : Value → Shared → Prop}
theorem paired_two {α β : Type} {F : α → β → Prop} {a b : α} {ys : List β} (h : Paired F [a, b] ys) : ∃ x y, ys = [x, y] ∧ F a x ∧ F b y := by
  cases h with
  | cons p1 r1 => cases r1 with
    | cons p2 r2 => cases r2 with
      | nil => exact ⟨_, _, rfl, p1, p2⟩
theorem cp_K {l : Addr} {n : Nat} {c x y : List Bool} {t1 t2 : Tok} (hl : s.heap.get? l = some (listOf #[.str (pth (c ++ false :: x)) t1, .str (pth (c ++ true :: y)) t2] n)) (hlx : (c ++ false :: x).length ≤ 5) (hly : (c ++ true :: y).length ≤ 5) (hlL : l ≠ L) (hl0 : h₀.get? l = none)
    (B : Below callerA base [] h₀) (F : Fr h₀ L s.heap m) (KX : (hd.heap_1 w.params).In h₀) (T : Top pp loose mean mg mb h₀)
    (hf : env.frame = some L) (hke : env.scope.kind = .function)
    (h : ∀ h' tk tv, Stays s.heap h' → Q (.str (if c.isEmpty then Str.ofString "/" else pth c) tv) { s with heap := h', toks := tk }) :
    wpAny (model PySem.Challenge.pw_qw0044_01 w) (callerA.deeper env) (PySem.call (.ref 220) [.ref l]) Q E s := by
  k_with_none
  k_with "execs cons" => ((k_here; refine PySem.wpAny_execs_cons ?_; (try k_fold)))
  k_with "eval Call" => ((k_here; k_fold; walk1))
  k_with "eval Call Attribute" => ((k_here; k_fold; walk1))
  k_with "eval BinOp" => ((k_here; k_fold; walk1))
  k_with "eval Compare" => ((k_here; k_fold; walk1))
  k_with "eval Subscript" => ((k_here; k_fold; walk1))
  k_with "isTrue Compare" => ((k_here; k_fold; walk1))
  k_with "eval ListComp" => ((k_here; refine Halt.of ?_))
  k_with "eval SetComp" => ((k_here; refine Halt.of ?_))
  k_with "call type:map" => ((k_here; refine Halt.of ?_))
  k_with "call type:tuple" => ((k_here; refine Halt.of ?_))
  k_with "exec Try" => ((k_here; refine wpAny_Try_except ?_))
  k_with "exec Assign cons ListComp" => ((refine Halt.of ?_))
  k_with "call builtin:str.split" => ((refine Halt.of ?_))
  k_with "eval Name" => ((k_here; (fail_if_success (fail_if_success (have : Marker2 := by assumption))); k_dflt (refine' nameX_L ?F ?v ?_ ?a ?b; (case F => k_asm); (case a => rfl); (case b => rfl); (case v => first | assumption | exact m_neq (by decide) (by assumption) | exact m_neq2 (by decide) (by decide) (by assumption)); k_whole)))
  k_with "call builtin:min" => ((refine Halt.of ?_))
  k_with "call builtin:max" => ((refine Halt.of ?_))
  k_with "exec For Tuple Call cons nil" => ((refine Halt.of ?_))
  k_with "call type:enumerate" => ((refine Halt.of ?_))
  k_with "subscriptTail Name Name ref int" => ((refine Halt.of ?_))
  revert KX
  have h0 : PySem.Challenge.rw_qw0044_01.Holds ∨ True := .inr trivial
  revert h0
  k_fill
  intro h0 KX
  clear h0
  have N : News h₀ L s.heap [(l, listOf #[.str (pth (c ++ false :: x)) t1, .str (pth (c ++ true :: y)) t2] n)] := fun p hp => by rw [List.mem_singleton.mp hp]; exact ⟨hl, hlL, hl0⟩
  refine wpAny_call ?_
  refine' enter_PC B F KX N T rfl hf hke ?k6 ?k7 ?k8 ?k9 ?kB ?kD ?_ ?c2 ?c3 ?c4
  case k6 => k_is
  case k7 => k_is
  case k8 => k_room
  case k9 => exact BindsTo.of_eq rfl
  case kB => exact rfl
  case kD => decide +kernel
  case c2 => rfl
  case c3 => rfl
  case c4 => rfl
  intro g' L' h' tk' cells' kb FG' F' N' Y' B' X' T' l1
  (try k_lt l1)
  k_cells Y'
  (try simp only [List.cons_append, List.nil_append] at N')
  (try dsimp only)
  (try k_lift B')
  k_steps
  refine Halt.go ?_
  rename News _ _ _ _ => N1
  rename Fr _ _ _ _ => F1
  refine map_x (N1 (l, _) (by k_mem)).1 fun M T I h1 D => ?_
  refine Classical.byContradiction fun hn => ?_
  refine Classical.byContradiction fun hn9 => ?_
  obtain ⟨kS1, hTI, hMI, hmap, hit, hIn⟩ := map_made D
  refine hn9 ?_
  clear hn9
  have hlI : l ≠ I := fun e => by
    rw [← e, (N1 (l, _) (by k_mem)).1] at hIn
    cases hIn
  have F2 := kS1.fr F1
  have N2 := kS1.news N1
  obtain ⟨hI0, hIL⟩ := fr_none F1 hIn
  have hnI := news_ne N1 hIn
  clear N1 F1
  refine hn ?_
  clear hn
  k_steps
  refine Halt.go ?_
  rename News _ _ _ _ => N3
  rename Fr _ _ _ _ => F3
  have up : ∀ h3, (∀ b o, b ≠ I → h1.get? b = some o → h3.get? b = some o) → Fr g' L' h3 _ ∧ News g' L' h3 _ := fun h3 hk =>
    ⟨⟨F3.ns.at' fun o e => hk _ o (Ne.symm hIL) e, fun b o e => hk b o (fun q => by rw [q, hI0] at e; cases e) (F3.keep b o e), F3.above⟩, fun p hp => ⟨hk _ _ (hnI p hp) (N3 p hp).1, (N3 p hp).2⟩⟩
  refine tuple_map (vs := #[.str (pth (c ++ false :: x)) t1, .str (pth (c ++ true :: y)) t2]) rfl hmap hit ⟨_, (N3 (l, listOf #[.str (pth (c ++ false :: x)) t1, .str (pth (c ++ true :: y)) t2] n) (by k_mem)).1, rfl, _, rfl⟩ hMI hTI hlI (Nat.le_of_ble_eq_true rfl) ?hcall fun D2 h2 tk2 hD2 hD2o hk2 => ?_
  case hcall =>
    intro v hv s' Q' E' hk hq
    obtain ⟨a, t, rfl⟩ : ∃ a t, v = .str a t := by
      simp at hv
      rcases hv with rfl | rfl
      · exact ⟨_, _, rfl⟩
      · exact ⟨_, _, rfl⟩
    obtain ⟨F4, N4⟩ := up _ hk
    exact fspath_K B' F4 X' T' rfl rfl rfl (by k_room) hq
  obtain ⟨F4, N4⟩ := up h2 hk2
  have hD3 : g'.get? D2 = none ∧ D2 ≠ L' := by
    rcases hD2 with rfl | hD2
    · exact ⟨hI0, hIL⟩
    · exact fr_none F3 hD2
  have N5 := news_cons N4 ⟨hD2o, hD3.2, hD3.1⟩
  clear N4 N3 F3 up D
  k_steps
  refine Halt.go ?_
  rename Fr _ _ _ _ => F1
  rename News _ _ _ _ => N1
  have hL1 : ∀ C, (∀ b o, Heap.get? _ b = some o → b < C) → L' < C := fun C hC => by
    refine Classical.byContradiction fun hn9 => ?_
    obtain ⟨oL, _, _, e, _⟩ := F1.ns
    refine hn9 ?_
    clear hn9
    exact hC _ _ e
  simp only [List.cons_append, List.nil_append] at N1
  have tup := (N1 _ (.head _)).1
  refine assign_seqO (h₀ := g') (l := D2) (vs := [.str (pth (c ++ false :: x)) t1, .str (pth (c ++ true :: y)) t2]) (p := fun _ => true) (G := fun v its => ∃ (a : Str) (t : Tok) (l : List (Str × Tok)), v = .str a t ∧ its = (strValues l).toArray ∧ l.map (·.1) = Txt.split a (Str.ofString "/")) ?hh F1 (.inl ⟨_, tup, rfl, _, rfl⟩) (by with_unfolding_all rfl) (by with_unfolding_all rfl) (by decide) rfl (by decide) rfl rfl rfl (Nat.le_of_ble_eq_true rfl) ?hit ?htests ?helt ?hQ (fun _ => rfl)
  case hh => rfl
  case hit =>
    intro R hR
    k_steps
    exact hR
  case htests => intros; exact no_test
  case helt =>
    intro C v s₂ m₂ E' hC hv hp hn hm hk
    have F2 : Fr g' C s₂.heap m₂ := ⟨hn, fun b o e => hk _ _ (F1.keep b o e), Nat.le_trans F1.above (Nat.le_of_lt (hL1 C hC))⟩
    have N2 : News g' C s₂.heap _ := fun p hp => ⟨hk _ _ (N1 p hp).1, Nat.ne_of_lt (hC _ _ (N1 p hp).1), (N1 p hp).2.2⟩
    refine Classical.byContradiction fun hn9 => ?_
    obtain ⟨a, t, rfl, hla⟩ : ∃ a t, v = .str a t ∧ a.length ≤ 1000 := by
      simp at hv
      rcases hv with rfl | rfl
      · exact ⟨_, _, rfl, by rw [pth_len]; omega⟩
      · exact ⟨_, _, rfl, by rw [pth_len]; omega⟩
    refine hn9 ?_
    clear hn9
    k_steps
    refine Halt.go ?_
    refine split_x (by decide +kernel) hla fun l k hl => ?_
    exact ⟨⟨s₂.heap.objs.size, _, rfl, Heap.get?_none_of_le (Nat.le_refl _), ⟨_, Heap.get?_push_size _ rfl, rfl, _, rfl⟩, a, t, l, rfl, rfl, hl⟩, ⟨_, _, rfl, fun b o e => Heap.get?_push_of_some _ e⟩⟩
  case hQ =>
    intro D ys h2 tk2 hD hl2 hpl hpr hnD hst F3
    rw [List.filter_eq_self.mpr fun _ _ => rfl] at hpr
    refine Classical.byContradiction fun hn => ?_
    refine Classical.byContradiction fun hn9 => ?_
    obtain ⟨x9, y9, rfl, p1, p2⟩ := paired_two hpr
    refine hn9 ?_
    clear hn9
    refine Classical.byContradiction fun hn9 => ?_
    obtain ⟨S1, i1, rfl, n1, hS1, a1, u1, l1, e1, rfl, hl1⟩ := p1
    refine hn9 ?_
    clear hn9
    refine Classical.byContradiction fun hn9 => ?_
    obtain ⟨S2, i2, rfl, n2, hS2, a2, u2, l2, e3, rfl, hl2'⟩ := p2
    refine hn9 ?_
    clear hn9
    cases e1
    cases e3
    clear hpr
    refine Classical.byContradiction fun hn9 => ?_
    obtain ⟨oD, gD, cD, kD, dD⟩ := hl2
    refine hn9 ?_
    clear hn9
    refine Classical.byContradiction fun hn9 => ?_
    obtain ⟨o1, g1, c1, k1, d1⟩ := hS1
    refine hn9 ?_
    clear hn9
    refine Classical.byContradiction fun hn9 => ?_
    obtain ⟨o2, g2, c2, k2, d2⟩ := hS2
    refine hn9 ?_
    clear hn9
    refine hn ?_
    clear hn
    have fD := fr_none F1 hD
    have f1 := fr_none F1 n1
    have f2 := fr_none F1 n2
    have N3 := news_cons (news_cons (news_cons (fun p hp => ⟨hst _ _ (N1 p hp).2.1 (N1 p hp).1, (N1 p hp).2⟩ : News g' L' h2 _) ⟨g2, f2.2, f2.1⟩) ⟨g1, f1.2, f1.1⟩) ⟨gD, fD.2, fD.1⟩
    dsimp only
    k_steps
    refine Halt.go ?_
    rename News _ _ _ _ => N4
    rename Fr _ _ _ _ => F4
    have hL4 : ∀ C, (∀ b o, Heap.get? h2 b = some o → b < C) → L' < C := fun C hC => by
      refine Classical.byContradiction fun hn9 => ?_
      obtain ⟨oL, _, _, e, _⟩ := F4.ns
      refine hn9 ?_
      clear hn9
      exact hC _ _ e
    have tup4 := (N4 (D2, _) (.tail _ (.tail _ (.tail _ (.head _))))).1
    refine setcomp_tup (l := D2) (vs := [.str (pth (c ++ false :: x)) t1, .str (pth (c ++ true :: y)) t2]) ?hh ⟨_, tup4, rfl, _, rfl⟩ (by with_unfolding_all rfl) (by decide) rfl (by decide) rfl (Nat.lt_of_lt_of_le Nat.zero_lt_two (Nat.le_refl _)) ?hit2 ?helt2 ?hQ2 (fun _ => rfl)
    case hh => rfl
    case hit2 =>
      intro R hR
      k_steps
      exact hR
    case helt2 =>
      intro C v s₂ m₂ E' hC hv hn hm hk
      have F2 : Fr g' C s₂.heap m₂ := ⟨hn, fun b o e => hk _ _ (F4.keep b o e), Nat.le_trans F4.above (Nat.le_of_lt (hL4 C hC))⟩
      have N2 : News g' C s₂.heap _ := fun p hp => ⟨hk _ _ (N4 p hp).1, Nat.ne_of_lt (hC _ _ (N4 p hp).1), (N4 p hp).2.2⟩
      refine Classical.byContradiction fun hn9 => ?_
      obtain ⟨l, t, rfl, hl5, hln⟩ : ∃ l t, v = .str (pth l) t ∧ l.length ≤ 5 ∧ l ≠ [] := by
        simp at hv
        rcases hv with rfl | rfl
        · exact ⟨_, _, rfl, hlx, by simp⟩
        · exact ⟨_, _, rfl, hly, by simp⟩
      refine hn9 ?_
      clear hn9
      k_steps
      · rw [pth_starts hl5 hln]
      · exact ⟨_, _, rfl, fun _ _ e => e⟩
    case hQ2 =>
      intro D3 h3 tk3 hD3 ho3 hst3
      refine assign_one ?hh ho3 rfl rfl fun h4 hst4 => ?_
      case hh => rfl
      have F5 := hst4.fr (hst3.fr F4)
      have N5 := hst4.news (hst3.news N4)
      clear N4 F4
      k_steps
      refine Halt.go ?_
      rename News _ _ _ _ => N6
      rename Fr _ _ _ _ => F6
      rename Heap => h6
      have hL6 : ∀ C, (∀ b o, h6.get? b = some o → b < C) → L' < C := fun C hC => by
        refine Classical.byContradiction fun hn9 => ?_
        obtain ⟨oL, _, _, e, _⟩ := F6.ns
        refine hn9 ?_
        clear hn9
        exact hC _ _ e
      have gD6 := (N6 (D, oD) (.head _)).1
      have gS1 := (N6 (S1, o1) (.tail _ (.head _))).1
      have gS2 := (N6 (S2, o2) (.tail _ (.tail _ (.head _)))).1
      refine assign_seqO (h₀ := g') (l := D) (vs := [.ref S1, .ref S2]) (p := fun _ => true) (G := fun v its => ∃ l, (v = .ref S1 ∧ l = l1 ∨ v = .ref S2 ∧ l = l2) ∧ its = ((strValues l).filter goodPart).toArray) ?hh F6 (.inr ⟨oD, gD6, cD, kD, dD⟩) (by with_unfolding_all rfl) (by with_unfolding_all rfl) (by decide) rfl (by decide) rfl rfl rfl (Nat.le_of_ble_eq_true rfl) ?hit3 ?htests3 ?helt3 ?hQ3 (fun _ => rfl)
      case hh => rfl
      case hit3 =>
        intro R hR
        k_steps
        exact hR
      case htests3 => intros; exact no_test
      case helt3 =>
        intro C v s₂ m₂ E' hC hv hp hn hm hk
        have F2 : Fr g' C s₂.heap m₂ := ⟨hn, fun b o e => hk _ _ (F6.keep b o e), Nat.le_trans F6.above (Nat.le_of_lt (hL6 C hC))⟩
        have N2 : News g' C s₂.heap _ := fun p hp => ⟨hk _ _ (N6 p hp).1, Nat.ne_of_lt (hC _ _ (N6 p hp).1), (N6 p hp).2.2⟩
        refine Classical.byContradiction fun hn9 => ?_
        obtain ⟨S, lS, rfl, hS, hlS, bs, hbs, hb5⟩ : ∃ S lS, v = .ref S ∧ s₂.heap.IsList S (strValues lS).toArray ∧ (v = .ref S1 ∧ lS = l1 ∨ v = .ref S2 ∧ lS = l2) ∧ ∃ bs : List Bool, lS.map (·.1) = Str.ofString "" :: bs.map nmOf ∧ bs.length ≤ 5 := by
          simp at hv
          rcases hv with rfl | rfl
          · exact ⟨S1, l1, rfl, ⟨o1, hk _ _ gS1, c1, k1, d1⟩, .inl ⟨rfl, rfl⟩, _, hl1.trans (split_pth hlx (by simp)), hlx⟩
          · exact ⟨S2, l2, rfl, ⟨o2, hk _ _ gS2, c2, k2, d2⟩, .inr ⟨rfl, rfl⟩, _, hl2'.trans (split_pth hly (by simp)), hly⟩
        refine hn9 ?_
        clear hn9
        refine comp_lst (l := S) (vs := strValues lS) (p := goodPart) (G := fun v y => y = v) ?hh rfl (by decide) rfl (by decide) rfl ?len ?hit4 ?htests4 ?helt4 ?hQ4 (fun _ => rfl)
        case hh => rfl
        case len => exact parts_len hbs hb5
        case hit4 =>
          intro R hR
          k_steps
          exact hR _ _ hS Stays.refl
        case htests4 =>
          intro C4 v4 s4 m4 E4 hC4 hv4 hn4 hm4 hk4
          have hL9 : C < C4 := by
            refine Classical.byContradiction fun hn9 => ?_
            obtain ⟨oL, _, _, e, _⟩ := F2.ns
            refine hn9 ?_
            clear hn9
            exact hC4 _ _ e
          have F4 : Fr g' C4 s4.heap m4 := ⟨hn4, fun b o e => hk4 _ _ (F2.keep b o e), Nat.le_trans F2.above (Nat.le_of_lt hL9)⟩
          have N4 : News g' C4 s4.heap _ := fun p hp => ⟨hk4 _ _ (N2 p hp).1, Nat.ne_of_lt (hC4 _ _ (N2 p hp).1), (N2 p hp).2.2⟩
          refine Classical.byContradiction fun hn9 => ?_
          obtain ⟨a4, t4, rfl, ha4⟩ := parts_cases hbs hv4
          refine hn9 ?_
          clear hn9
          refine one_test ?_
          rcases ha4 with rfl | rfl | rfl
          · k_steps
            exact ⟨_, _, rfl, fun _ _ e => e⟩
          · k_steps
            exact ⟨_, _, rfl, fun _ _ e => e⟩
          · k_steps
            exact ⟨_, _, rfl, fun _ _ e => e⟩
        case helt4 =>
          intro C4 v4 s4 m4 E4 hC4 hv4 hp4 hn4 hm4 hk4
          have hL9 : C < C4 := by
            refine Classical.byContradiction fun hn9 => ?_
            obtain ⟨oL, _, _, e, _⟩ := F2.ns
            refine hn9 ?_
            clear hn9
            exact hC4 _ _ e
          have F4 : Fr g' C4 s4.heap m4 := ⟨hn4, fun b o e => hk4 _ _ (F2.keep b o e), Nat.le_trans F2.above (Nat.le_of_lt hL9)⟩
          k_steps
          exact ⟨_, _, rfl, fun _ _ e => e⟩
        case hQ4 =>
          intro D8 ys8 h8 tk8 hD8 hl8 hpl8 hpr8 hst8
          have e8 := paired_same hpr8
          subst e8
          exact ⟨⟨D8, _, rfl, hD8, hl8, lS, hlS, rfl⟩, _, _, rfl, hst8⟩
      case hQ3 =>
        intro D9 ys9 h9 tk9 hD9 hl9 hpl9 hpr9 hnD9 hst9 F9
        rw [List.filter_eq_self.mpr fun _ _ => rfl] at hpr9
        have same : S1 = S2 → l1 = l2 := fun e => by
          have e9 : o1 = o2 := Option.some.inj ((show h6.get? S1 = some o1 from gS1).symm.trans (by rw [e]; exact gS2))
          rw [← e9, d1] at d2
          injection d2 with d2 _
          exact strValues_inj (congrArg Array.toList d2)
        refine Classical.byContradiction fun hn => ?_
        refine Classical.byContradiction fun hn9 => ?_
        obtain ⟨x9, y9, rfl, p1, p2⟩ := paired_two hpr9
        refine hn9 ?_
        clear hn9
        refine Classical.byContradiction fun hn9 => ?_
        obtain ⟨R1, i1, rfl, m1, hR1, lA, hA1, rfl⟩ := p1
        refine hn9 ?_
        clear hn9
        refine Classical.byContradiction fun hn9 => ?_
        obtain ⟨R2, i2, rfl, m2, hR2, lB, hB1, rfl⟩ := p2
        refine hn9 ?_
        clear hn9
        have eA : lA = l1 := by
          rcases hA1 with ⟨_, e⟩ | ⟨e, e'⟩
          · exact e
          · rw [e', same (Value.ref.inj e)]
        have eB : lB = l2 := by
          rcases hB1 with ⟨e, e'⟩ | ⟨_, e⟩
          · rw [e', same (Value.ref.inj e).symm]
          · exact e
        rw [eA] at hR1
        rw [eB] at hR2
        obtain ⟨k1', e1', hk1⟩ := goods (hl1.trans (split_pth hlx (by simp)))
        obtain ⟨k2', e2', hk2⟩ := goods (hl2'.trans (split_pth hly (by simp)))
        rw [e1'] at hR1
        rw [e2'] at hR2
        refine Classical.byContradiction fun hn9 => ?_
        obtain ⟨oE, gE, cE, kE, dE⟩ := hl9
        refine hn9 ?_
        clear hn9
        refine Classical.byContradiction fun hn9 => ?_
        obtain ⟨q1, y1, z1, w1, x1⟩ := hR1
        refine hn9 ?_
        clear hn9
        refine Classical.byContradiction fun hn9 => ?_
        obtain ⟨q2, y2, z2, w2, x2⟩ := hR2
        refine hn9 ?_
        clear hn9
        have fE := fr_none F6 hD9
        have fR1 := fr_none F6 m1
        have fR2 := fr_none F6 m2
        have N9 := news_cons (news_cons (news_cons (fun p hp => ⟨hst9 _ _ (N6 p hp).2.1 (N6 p hp).1, (N6 p hp).2⟩ : News g' L' h9 _) ⟨y2, fR2.2, fR2.1⟩) ⟨y1, fR1.2, fR1.1⟩) ⟨gE, fE.2, fE.1⟩
        clear N6 F6 hpr9
        have both : ∀ j, j < c.length → ∃ bb t t', (strValues k1').toArray[j]? = some (.str (nmOf bb) t) ∧ (strValues k2').toArray[j]? = some (.str (nmOf bb) t') := fun j hj => by
          obtain ⟨t, e1⟩ := at_parts hk1 (j := j) (b := c[j]) (by rw [List.getElem?_append_left hj]; exact List.getElem?_eq_getElem hj)
          obtain ⟨t', e2⟩ := at_parts hk2 (j := j) (b := c[j]) (by rw [List.getElem?_append_left hj]; exact List.getElem?_eq_getElem hj)
          exact ⟨_, t, t', by simpa using e1, by simpa using e2⟩
        have same9 : ∀ j, j < c.length → ∃ x y, (strValues k2').toArray[j]? = some x ∧ (strValues k1').toArray[j]? = some y ∧ SameV x y := fun j hj => by
          refine Classical.byContradiction fun hn9 => ?_
          obtain ⟨bb, t, t', e1, e2⟩ := both j hj
          refine hn9 ?_
          clear hn9
          exact ⟨_, _, e2, e1, .inl ⟨_, _, _, rfl, rfl⟩⟩
        have at2 : ∃ t, (strValues k2').toArray[c.length]? = some (.str (Str.ofString "b") t) := by
          obtain ⟨t, e⟩ := at_parts hk2 (j := c.length) (b := true) (by simp)
          rw [show nmOf true = Str.ofString "b" from rfl] at e
          exact ⟨t, by simpa using e⟩
        have at1 : ∃ t, (strValues k1').toArray[c.length]? = some (.str (Str.ofString "a") t) := by
          obtain ⟨t, e⟩ := at_parts hk1 (j := c.length) (b := false) (by simp)
          rw [show nmOf false = Str.ofString "a" from rfl] at e
          exact ⟨t, by simpa using e⟩
        obtain ⟨u2, at2⟩ := at2
        obtain ⟨u1, at1⟩ := at1
        refine hn ?_
        clear hn
        dsimp only
        k_steps
        refine Halt.go ?_
        rename News _ _ _ _ => N10
        rename Fr _ _ _ _ => F10
        refine min_two (xs := (strValues k1').toArray) (ys := (strValues k2').toArray) (n := c.length) rfl (by k_units) (by k_units) ⟨oE, (N10 (D9, oE) (.head _)).1, cE, kE, dE⟩ ⟨q1, (N10 (R1, q1) (.tail _ (.head _))).1, z1, w1, x1⟩ ⟨q2, (N10 (R2, q2) (.tail _ (.tail _ (.head _)))).1, z2, w2, x2⟩ same9 at2 at1 fun h11 tk11 hst11 => ?_
        have F11 := hst11.fr F10
        have N11 := hst11.news N10
        clear F10 N10
        k_steps
        refine Halt.go ?_
        rename News _ _ _ _ => N12
        rename Fr _ _ _ _ => F12
        refine max_two (xs := (strValues k1').toArray) (ys := (strValues k2').toArray) (n := c.length) rfl (by k_units) (by k_units) ⟨oE, (N12 (D9, oE) (.head _)).1, cE, kE, dE⟩ ⟨q1, (N12 (R1, q1) (.tail _ (.head _))).1, z1, w1, x1⟩ ⟨q2, (N12 (R2, q2) (.tail _ (.tail _ (.head _)))).1, z2, w2, x2⟩ same9 at2 at1 fun h13 tk13 hst13 => ?_
        have F13 := hst13.fr F12
        have N13 := hst13.news N12
        clear F12 N12
        k_steps
        refine Halt.go ?_
        rename News _ _ _ _ => N14
        rename Fr _ _ _ _ => F14
        refine Classical.byContradiction fun hn => ?_
        refine Classical.byContradiction fun hn9 => ?_
        obtain ⟨m15, F15, v1, v2, v3, v4⟩ : ∃ m15, Fr g' L' _ m15 ∧ m15 (Str.ofString "s1") = some (.ref R1) ∧ m15 (Str.ofString "s2") = some (.ref R2) ∧ m15 (Str.ofString "common") = some (.ref R1) ∧ m15 (Str.ofString "isabs") = some (.bool true) :=
          ⟨_, F14, by x_close, by x_close, by x_close, by x_close⟩
        refine hn9 ?_
        clear hn9
        clear F14
        refine hn ?_
        clear hn
        have mk2 : Marker2 := trivial
        refine For_turns F15 ?_ (fun _ => rfl)
        k_steps
        refine Halt.go ?_
        refine' ktu_enum (lo := q1) (vs := strValues k1') rfl ?eF ?eN ?eM z1 x1 rfl ?_
        case eF => exact F15
        case eN => exact N14
        case eM => exact .tail _ (.head _)
        intro I hI
        refine enum_fold (vs := strValues k1') (J := fun i m' => i ≤ c.length ∧ ∀ x, (x == Str.ofString "i") = false → (x == Str.ofString "c") = false → m' x = m15 x) ?dn ?tn _ 0 _ rfl (Nat.zero_le _) ⟨Nat.zero_le _, fun _ _ _ => rfl⟩
        case dn =>
          intro m h tk hJ F N
          exfalso
          have h1 := hJ.1
          have h2 := congrArg List.length hk1
          rw [List.length_map, List.length_map, List.length_append, List.length_cons] at h2
          have h3 : (strValues k1').length = k1'.length := List.length_map ..
          omega
        case tn =>
          intro i v m8 h8 tk8 T8 t8 hv hJ hT F8 oe hoe oi hoi N8
          have w1' : m8 (Str.ofString "s1") = some (.ref R1) := by rw [hJ.2 _ (by decide) (by decide)]; exact v1
          have w2' : m8 (Str.ofString "s2") = some (.ref R2) := by rw [hJ.2 _ (by decide) (by decide)]; exact v2
          have w4' : m8 (Str.ofString "isabs") = some (.bool true) := by rw [hJ.2 _ (by decide) (by decide)]; exact v4
          have hi5 : i ≤ 5 := by
            have := hJ.1
            rw [List.length_append] at hlx
            omega
          have hv' : (strValues k1').toArray[i]? = some v := by simpa using hv
          rcases Nat.lt_or_eq_of_le hJ.1 with hlt | heq
          · refine Classical.byContradiction fun hn9 => ?_
            obtain ⟨bb, tb, tb', e1, e2⟩ := both i hlt
            refine hn9 ?_
            clear hn9
            rw [hv'] at e1
            obtain rfl := Option.some.inj e1
            k_steps
            refine Halt.go ?_
            rename News _ _ _ _ => N9
            (try simp only [List.cons_append, List.nil_append] at N9)
            refine item_list (x := .str (nmOf bb) tb') ⟨q2, (N9 (R2, q2) (by k_mem)).1, z2, w2, x2⟩ (Int.natCast_nonneg _) (by omega) (by rw [Int.toNat_natCast]; exact e2) ?_
            cases bb with
            | true =>
              rw [show nmOf true = Str.ofString "b" from rfl]
              k_steps
              rename Fr _ _ _ _ => Fz
              rename News _ _ _ _ => Nz
              refine ⟨_, _, _, _, rfl, Fz, Nz, fun p hp q hq => ?_, ⟨.tail _ (.head _), trivial⟩, rfl, hlt, fun x a1 a2 => ?_⟩
              · exact off_two (hI p hp) hq
              · refine (if_neg (fun e => by rw [e] at a2; simp at a2)).trans ((if_neg (fun e => by rw [e] at a1; simp at a1)).trans (hJ.2 x a1 a2))
            | false =>
              rw [show nmOf false = Str.ofString "a" from rfl]
              k_steps
              rename Fr _ _ _ _ => Fz
              rename News _ _ _ _ => Nz
              refine ⟨_, _, _, _, rfl, Fz, Nz, fun p hp q hq => ?_, ⟨.tail _ (.head _), trivial⟩, rfl, hlt, fun x a1 a2 => ?_⟩
              · exact off_two (hI p hp) hq
              · refine (if_neg (fun e => by rw [e] at a2; simp at a2)).trans ((if_neg (fun e => by rw [e] at a1; simp at a1)).trans (hJ.2 x a1 a2))
          · subst heq
            rw [hv'] at at1
            obtain rfl := Option.some.inj at1
            k_steps
            refine Halt.go ?_
            rename News _ _ _ _ => N9
            (try simp only [List.cons_append, List.nil_append] at N9)
            refine item_list (x := .str (Str.ofString "b") u2) ⟨q2, (N9 (R2, q2) (by k_mem)).1, z2, w2, x2⟩ (Int.natCast_nonneg _) (by omega) (by rw [Int.toNat_natCast]; exact at2) ?_
            k_steps
            rename Fr _ _ _ _ => F10
            rename News _ _ _ _ => N10
            (try simp only [List.cons_append, List.nil_append] at N10)
            refine kms_slice_lit F10 N10 ⟨q1, (N10 (R1, q1) (by k_mem)).1, z1, w1, x1⟩ .none (.int _ _) (pick_head (k := k1') c.length) (fun D11 h11 F11 N11 l11 => ?_) (by with_unfolding_all rfl) (by intro _; with_unfolding_all rfl) (by
              have := congrArg List.length hk1
              rw [List.length_map, List.length_map] at this
              rw [List.size_toArray, sizeLine_eq]
              show (k1'.map _).length ≤ _
              rw [List.length_map]; omega)
            k_steps
            rename News _ _ _ _ => N12
            have hhead : (k1'.take c.length).map (·.1) = c.map nmOf := by rw [List.map_take, hk1, List.map_append, List.take_append_of_le_length (by rw [List.length_map]; exact Nat.le_refl _), List.take_of_length_le (by rw [List.length_map]; exact Nat.le_refl _)]
            have hc5 : c.length ≤ 5 := hi5
            refine join_list (ys := c.map nmOf) ⟨_, (N12 (D11, listOf (strValues (k1'.take c.length)).toArray 0) (by k_mem)).1, rfl, _, rfl⟩ (by rw [← hhead]; exact strsAre_of_values _) (by rw [nm_sum, List.length_map, show (Str.ofString "/").length = 1 by decide +kernel]; omega) (fun t' k => ?_)
            have hjl : (Txt.join (Str.ofString "/") (c.map nmOf)).length ≤ 100 := by
              have h1 := StrLaws.join_length_le (Str.ofString "/") (c.map nmOf)
              rw [nm_sum, List.length_map, show (Str.ofString "/").length = 1 by decide +kernel] at h1
              have e : Txt.join (Str.ofString "/") (c.map nmOf) = Str.join (Str.ofString "/") (c.map nmOf) := StrLaws.glued_eq_join _ _
              rw [e]
              omega
            k_steps
            intro kS
            rename News h₀ L _ _ => N99
            rw [← join_pth hc5] at h
            exact h _ _ _ (kS.stays (fun p hp => (N p hp).1) fun p hp => (N99 p (by rw [List.mem_singleton.mp hp]; k_mem)).1)
end
end Mine
end

section
open PySem PySem.W PyProof.Rows
namespace Mine
local macro_rules | `(tactic| walk_at "no goal") => `(tactic| skip)
local macro_rules | `(tactic| walk_at "no goal") => `(tactic| skip)
theorem freshW5 : True ∧ True := by
  k_with_none
  w_top off
  first | (walk1; done) | exact ⟨trivial, trivial⟩
end Mine
end

/-! part W5 -/
section
open PySem PySem.W PySem.W.X PyProof.Rows PySem.Calls
set_option maxRecDepth 100000
set_option maxHeartbeats 4000000
namespace Mine
local macro_rules | `(tactic| omega) => `(tactic| lia)
local macro_rules | `(tactic| walk_at $s:str) => `(tactic| k_extra $s)
theorem paired_get {α β : Type} {F : α → β → Prop} : ∀ {l : List α} {ys : List β}, Paired F l ys → ∀ {j : Nat} {a : α}, l[j]? = some a → ∃ y, ys[j]? = some y ∧ F a y
  | _, _, .nil, j, a, h => by simp at h
  | _, _, .cons h1 h2, 0, a, h => by
    simp at h; subst h
    exact ⟨_, rfl, h1⟩
  | _, _, .cons h1 h2, j + 1, a, h => by
    simp at h
    obtain ⟨y, e, f⟩ := paired_get h2 h
    exact ⟨y, by simpa using e, f⟩
theorem place_same {o : Option (List Bool)} {v u : Value} (h1 : PlaceIs o v) (h2 : PlaceIs o u) : SameV v u := by
  cases o with
  | none => exact .inr ⟨h1, h2⟩
  | some bs =>
    obtain ⟨t, rfl⟩ := h1
    obtain ⟨t', rfl⟩ := h2
    exact .inl ⟨_, _, _, rfl, rfl⟩
section
local macro_rules | `(tactic| k_room) => `(tactic| ((try simp only [depth_under_make, depth_under_kw, depth_in1, depth_deeper, depth_caller]); first | decide | (have : recursionLimit = 1000 := by decide
                                                                                                                                                                 omega)))
variable {w : World} {base h₀ : Heap} {E : Value → Shared → Prop} {s : Shared} {L fa : Addr} {m mg mb : Str → Option Value} {pp : Program} {loose : List Str} {mean : ExcName → Option Value} {Q : Flow → Shared → Prop}
theorem law_end {TO TU PL D O : Addr} {o1 o2 : Obj} {tb tb1 tc : Array Value} {nTo nTu nPl nD nO : Nat} {ds : List Int} {ys toldV turnV placeV : List Value} {ord : List Nat} {tks : Nat → Tok} {st : St}
    (B : Below callerA base [] h₀) (F : Fr h₀ L s.heap m) (KX : (hd.heap_1 w.params).In h₀) (T : Top pp loose mean mg mb h₀)
    (hor : m (Str.ofString "order") = some (.ref O)) (htu : m (Str.ofString "turns") = some (.ref TU)) (hto : m (Str.ofString "told") = some (.ref TO))
    (hd1 : o1.data = .cell (some (.ref PL))) (hd2 : o2.data = .cell (some (.ref D)))
    (N : News h₀ L s.heap [(70, tabObj tb), (TO, listOf toldV.toArray nTo), (TU, listOf turnV.toArray nTu), (PL, listOf placeV.toArray nPl), (L + 1 + 1, o2), (L + 1, o1), (D, listOf ys.toArray nD), (107, tabObj tb1), (227, tabObj tc), (O, listOf (ord.map fun i : Nat => Value.int (i : Int) (tks i)).toArray nO)])
    (hys : IntsAre ys ds) (hdl : ds.length ≤ 20) (hd14 : ∀ d ∈ ds, 1 ≤ d ∧ d ≤ 4) (hperm : ord.Perm (List.range ds.length)) (hpw : ord.Pairwise (Bef fun i => ds.getD i 0)) (hrun : Run ds ord st)
    (P1 : Paired PlaceIs st.tolds toldV) (P2 : Paired (fun bs v => ∃ t, v = Value.str (tpth bs) t) st.trs turnV) (P3 : Paired (fun bs v => ∃ t, v = Value.str (pth bs) t) st.pls placeV)
    (h : ∀ m' h' tk, Fr h₀ L h' m' → News h₀ L h' [(107, tabObj tb1), (227, tabObj tc), (70, tabObj tb)] → Q (.ret (.bool true)) { s with heap := h', toks := tk }) :
    wpAny (model PySem.Challenge.pw_qw0044_01 w) (callerA.deeper (lawEnv w L fa)) (execs ((lawBody w).drop 8) (lawEnv w L fa)) Q E s := by
  k_with_none
  k_with "eval ListComp" => ((k_here; refine Halt.of ?_))
  k_with "call ref" => ((k_here; refine Halt.of ?_))
  k_with "compareOp NotEq ref" => ((k_here; refine Halt.of ?_))
  k_with "compareOp Eq ref" => ((k_here; refine Halt.of ?_))
  k_with "subscriptTail" => ((k_here; refine Halt.of ?_))
  k_with "newList" => ((k_here; refine Halt.of ?_))
  k_with "call builtin:len" => ((k_here; refine Halt.of ?_))
  k_with "eval Name" => ((k_here; (fail_if_success (fail_if_success (have : Marker := by assumption))); k_dflt (refine' nameX_L ?F ?v ?_ ?a ?b; (case F => k_asm); (case a => rfl); (case b => rfl); (case v => assumption); k_whole)))
  revert KX
  have h0 : PySem.Challenge.rw_qw0044_01.Holds ∨ True := .inr trivial
  revert h0
  k_fill
  intro h0 KX
  clear h0
  refine' (fun e3 => ?main) (fd_pick (w := w) ?hp)
  case hp => k_is
  rotate_left
  unfold lawBody lawEnv at *
  rw [e3] at ⊢
  dsimp only [bodyOf, List.drop] at ⊢
  have hordlt : ∀ k ∈ ord, k < ds.length := fun k hk => List.mem_range.mp (hperm.mem_iff.mp hk)
  have hol : ord.length = ds.length := by rw [hperm.length_eq, List.length_range]
  have et := run_told hd14 hrun hperm hpw
  have tok := run_turns hd14 hrun hordlt
  have rl := run_len hrun
  have l1 := P1.length
  have l2 := P2.length
  have l3 := P3.length
  have mk : Marker := trivial
  k_steps
  refine Halt.go ?_
  rename News _ _ _ _ => N1
  rename Fr _ _ _ _ => F1
  refine comp_lst (l := O) (vs := ord.map fun i : Nat => Value.int (i : Int) (tks i)) (p := fun _ => true) (G := fun v y => ∀ (i : Nat) t, v = Value.int (i : Int) t → PlaceIs (placeOf ds i) y) ?hh rfl (by decide) rfl (by decide) rfl ?len ?hit ?htests ?helt ?hQ (fun _ => rfl)
  case hh => rfl
  case len => rw [List.length_map]; omega
  case hit =>
    intro R hR
    k_steps
    exact hR _ _ ⟨_, (N1 (O, _) (by k_mem)).1, rfl, _, rfl⟩ Stays.refl
  case htests => intros; exact no_test
  case helt =>
    intro C v s₂ m₂ E' hC hv hp hn hm hk
    have hL1 : L < C := by
      refine Classical.byContradiction fun hn9 => ?_
      obtain ⟨oL, _, _, e, _⟩ := F1.ns
      refine hn9 ?_
      clear hn9
      exact hC _ _ e
    have F2 : Fr h₀ C s₂.heap m₂ := ⟨hn, fun b o e => hk _ _ (F1.keep b o e), Nat.le_trans F1.above (Nat.le_of_lt hL1)⟩
    have N2 : News h₀ C s₂.heap _ := fun p hp => ⟨hk _ _ (N1 p hp).1, Nat.ne_of_lt (hC _ _ (N1 p hp).1), (N1 p hp).2.2⟩
    have FL := hk.fr F1
    obtain ⟨i, hi, rfl⟩ := List.mem_map.mp hv
    have hid := hordlt i hi
    k_steps
    all_goals (try k_data)
    refine Halt.go ?_
    have hD9 := N2 (D, listOf ys.toArray nD) (by k_mem)
    refine place_K (ds := ds) (k := (i : Int)) hD9.1 hys hd14 (Int.natCast_nonneg _) (Int.ofNat_lt.mpr hid) hdl (N1 (D, listOf ys.toArray nD) (by k_mem)).2.1 hD9.2.2 B FL KX T rfl rfl fun h' tk v st9 hpl => ?_
    refine ⟨fun i' t' e => ?_, _, _, rfl, st9⟩
    have e1 : (i : Int) = (i' : Int) := (Value.int.inj e).1
    have e2 : i = i' := by omega
    rw [Int.toNat_natCast, e2] at hpl
    exact hpl
  case hQ =>
    intro D2 ys2 h2 tk2 hD2 hl2 hpl2 hpr2 hst2
    have F3 := hst2.fr F1
    have N3 := hst2.news N1
    rw [List.filter_eq_self.mpr fun _ _ => rfl] at hpr2
    have hy2 : ys2.length = ord.length := by have := hpr2.length; rw [List.length_map] at this; exact this.symm
    have ht2 : toldV.length = ord.length := by rw [← l1, et, List.length_map]
    have same : ∀ j, j < ord.length → ∃ x y, toldV.toArray[j]? = some x ∧ ys2.toArray[j]? = some y ∧ SameV x y := fun j hj => by
      have e1 : st.tolds[j]? = some (placeOf ds ord[j]) := by rw [et, List.getElem?_map, List.getElem?_eq_getElem hj]; rfl
      obtain ⟨x, hx, px⟩ := paired_get P1 e1
      have e2 : (ord.map fun i : Nat => Value.int (i : Int) (tks i))[j]? = some (Value.int ((ord[j] : Nat) : Int) (tks ord[j])) := by rw [List.getElem?_map, List.getElem?_eq_getElem hj]; rfl
      obtain ⟨y, hy, py⟩ := paired_get hpr2 e2
      exact ⟨x, y, by simpa using hx, by simpa using hy, place_same px (py _ _ rfl)⟩
    clear hpr2
    k_steps
    refine Halt.go ?_
    refine list_same (xs := toldV.toArray) (ys := ys2.toArray) (n := ord.length) (.inr rfl) (by k_units) ⟨_, (N3 (TO, _) (by k_mem)).1, rfl, _, rfl⟩ hl2 (by simpa using ht2) (by simpa using hy2) same ?_
    k_steps
    refine Halt.go ?_
    rename News _ _ _ _ => N4
    rename Fr _ _ _ _ => F4
    refine comp_rng (n := st.trs.length) (pz := fun _ => true) (G := fun a y => ∀ c, st.trs[a]? = some c → ∃ t, y = Value.str (tpth c) t) ?hh rfl (by decide) rfl (by decide) rfl (by omega) ?hit ?htests ?helt ?hQ (fun _ => rfl)
    case hh => rfl
    case hit =>
      intro R hR
      k_steps
      all_goals (try k_data)
      refine Halt.go ?_
      rename News _ _ _ _ => N5
      refine PyProof.Rows.len_list (items := turnV.toArray) ⟨_, (N5 (TU, _) (by k_mem)).1, rfl, _, rfl⟩ (by rw [List.size_toArray]; omega) ?_
      rw [List.size_toArray, ← l2]
      k_steps
      all_goals (try k_data)
      exact hR _ _ _ _ _ _ (by assumption) (by assumption)
    case htests => intros; exact no_test
    case helt =>
      intro C a t s₂ m₂ E' hC ha hp hn hm hk
      have hL4 : L < C := by
        refine Classical.byContradiction fun hn9 => ?_
        obtain ⟨oL, _, _, e, _⟩ := F4.ns
        refine hn9 ?_
        clear hn9
        exact hC _ _ e
      have F5 : Fr h₀ C s₂.heap m₂ := ⟨hn, fun b o e => hk _ _ (F4.keep b o e), Nat.le_trans F4.above (Nat.le_of_lt hL4)⟩
      have N5 : News h₀ C s₂.heap _ := fun p hp => ⟨hk _ _ (N4 p hp).1, Nat.ne_of_lt (hC _ _ (N4 p hp).1), (N4 p hp).2.2⟩
      have FL := hk.fr F4
      refine Classical.byContradiction fun hn9 => ?_
      obtain ⟨c, x, y, ec, ex, ey⟩ := tok.at_ a ha
      refine hn9 ?_
      clear hn9
      refine Classical.byContradiction fun hn9 => ?_
      obtain ⟨v1, ev1, t1, rfl⟩ := paired_get P3 ex
      refine hn9 ?_
      clear hn9
      refine Classical.byContradiction fun hn9 => ?_
      obtain ⟨v2, ev2, t2, rfl⟩ := paired_get P3 ey
      refine hn9 ?_
      clear hn9
      k_steps
      all_goals (try k_data)
      refine Halt.go ?_
      refine PyProof.Rows.item_list (x := .str (pth (c ++ false :: x)) t1) ⟨_, (N5 (PL, _) (by k_mem)).1, rfl, _, rfl⟩ (Int.natCast_nonneg _) (by omega) (by rw [Int.toNat_natCast]; simpa using ev1) ?_
      k_steps
      all_goals (try k_data)
      refine Halt.go ?_
      refine PyProof.Rows.item_list (x := .str (pth (c ++ true :: y)) t2) ⟨_, (N5 (PL, _) (by k_mem)).1, rfl, _, rfl⟩ (by omega) (by omega) (by rw [show ((a : Int) + 1).toNat = a + 1 by omega]; simpa using ev2) ?_
      k_steps
      all_goals (try k_data)
      refine Halt.go ?_
      refine wpAny_newObj_type ?_
      have FP := FL.push { cls := .type "list", data := .seq #[.str (pth (c ++ false :: x)) t1, .str (pth (c ++ true :: y)) t2] }
      have lf := FL.ns.lt
      have lg := FL.above
      k_steps
      all_goals (try k_data)
      refine Halt.go ?_
      refine cp_K (n := 0) (c := c) (x := x) (y := y) (t1 := t1) (t2 := t2) (Heap.get?_push_size _ rfl) (tok.five.2 _ (List.mem_of_getElem? ex)) (tok.five.2 _ (List.mem_of_getElem? ey)) (Nat.ne_of_gt lf) (Heap.get?_none_of_le (Nat.le_trans lg (Nat.le_of_lt lf))) B FP KX T rfl rfl fun h' tk tv st9 => ?_
      refine ⟨fun c' e' => ⟨tv, ?_⟩, _, _, rfl, fun b o e => st9 _ _ (Heap.get?_push_of_some _ e)⟩
      rw [ec] at e'
      obtain rfl := Option.some.inj e'
      rfl
    case hQ =>
      intro D6 ys6 h6 tk6 hD6 hl6 hpl6 hpr6 hst6
      have F6 := hst6.fr F4
      have N6 := hst6.news N4
      rw [List.filter_eq_self.mpr fun _ _ => rfl] at hpr6
      have hy6 : ys6.length = st.trs.length := by have := hpr6.length; rw [List.length_range] at this; exact this.symm
      have same6 : ∀ j, j < st.trs.length → ∃ x y, turnV.toArray[j]? = some x ∧ ys6.toArray[j]? = some y ∧ SameV x y := fun j hj => by
        refine Classical.byContradiction fun hn9 => ?_
        obtain ⟨x, hx, t, ht⟩ := paired_get P2 (List.getElem?_eq_getElem hj)
        refine hn9 ?_
        clear hn9
        obtain ⟨y, hy, py⟩ := paired_get hpr6 (List.getElem?_range hj)
        obtain ⟨t', ht'⟩ := py _ (List.getElem?_eq_getElem hj)
        exact ⟨x, y, by simpa using hx, by simpa using hy, .inl ⟨_, _, _, ht, ht'⟩⟩
      clear hpr6
      k_steps
      refine Halt.go ?_
      refine list_same (xs := turnV.toArray) (ys := ys6.toArray) (n := st.trs.length) (.inl rfl) (by k_units) ⟨_, (N6 (TU, _) (by k_mem)).1, rfl, _, rfl⟩ hl6 (by simpa using l2.symm) (by simpa using hy6) same6 ?_
      k_steps
      dsimp only
      exact h _ _ _ F6 (news_re N6 (by k_subL))
end
end Mine
end

section
open PySem PySem.W PyProof.Rows
namespace Mine
local macro_rules | `(tactic| walk_at "no goal") => `(tactic| skip)
theorem freshA1 : True ∧ True := by
  k_with_none
  w_top off
  first | (walk1; done) | exact ⟨trivial, trivial⟩
end Mine
end

/-! part A1 -/
section
open PySem PySem.W PySem.W.X PyProof.Rows PySem.Calls
set_option maxRecDepth 100000
set_option maxHeartbeats 8000000
namespace Mine
theorem small_of_big {P : Params} {h : Heap} (KB : (Kbig P).In h) : (hd.heap_1 P).In h := fun a o e => KB a o (by
  have n0 : (hd.heap_1 P).lookup 0 = none := by kernel_rfl
  have n1 : (hd.heap_1 P).lookup 1 = none := by kernel_rfl
  have n4 : (hd.heap_1 P).lookup 4 = none := by kernel_rfl
  have ne : ∀ b, (hd.heap_1 P).lookup b = none → (a == b) = false := fun b hb => by
    cases hab : (a == b) with
    | false => rfl
    | true =>
      have : a = b := eq_of_beq hab
      rw [this, hb] at e
      cases e
  unfold Kbig
  rw [List.lookup_cons, ne 0 n0, List.lookup_cons, ne 1 n1, List.lookup_cons, ne 4 n4]
  exact e)
section
variable {w : World} {base h₀ : Heap} {E : Value → Shared → Prop} {s : Shared} {L l fa : Addr} {mm mg mb : Str → Option Value} {pp : Program} {loose : List Str} {mean : ExcName → Option Value} {Q : Flow → Shared → Prop}
theorem body_split (w : World) : (lawBody w).drop 7 = (lawBody w).getD 7 (.Pass default) :: (lawBody w).drop 8 := by
  have h0 : PySem.Challenge.rw_qw0044_01.Holds ∨ (hd.heap_1 w.params).In default ∨ True := .inr (.inr trivial)
  revert h0
  k_fill
  intro h0
  clear h0
  refine' (fun e3 => ?main) (fd_pick (w := w) ?hp)
  case hp => k_is
  rotate_left
  unfold lawBody
  rw [e3]
  rfl
theorem law_all {vs : List Value} {zs : List Int} {od op : Obj} (hl : h₀.IsList l vs.toArray) (hi : IntsAre vs zs) (hlen : zs.length ≤ 63)
    (B : Below callerA base [] h₀) (F : Fr h₀ L s.heap mm) (hmm : mm = bindL (lawEnv w L fa).kindOf [(Str.ofString "script", .ref l)] fun _ => none) (KB : (Kbig w.params).In h₀)
    (N : News h₀ L s.heap [(L + 1 + 1, od), (L + 1, op), (107, tabObj #[]), (227, tabObj #[]), (70, tabObj #[])]) (hod : od.data = .cell none) (hop : op.data = .cell none) (T : Top pp loose mean mg mb h₀)
    (C2 : CodeHd h₀ 229 227) (l0 : (107 : Nat) < L ∧ (227 : Nat) < L ∧ (70 : Nat) < L) (G : AllBare s.gens)
    (hQ : ∀ m' h' gs dr tk tb1 tc tb, Fr h₀ L h' m' → News h₀ L h' [(107, tabObj tb1), (227, tabObj tc), (70, tabObj tb)] → AllBare gs → Q (.ret (.bool true)) { s with heap := h', gens := gs, drawn := dr, toks := tk })
    (hE : PassesOwn (model PySem.Challenge.pw_qw0044_01 w) (callerA.deeper (lawEnv w L fa)) (lawEnv w L fa) E) :
    wpAny (model PySem.Challenge.pw_qw0044_01 w) (callerA.deeper (lawEnv w L fa)) (execs (lawBody w) (lawEnv w L fa)) Q E s := by
  subst hmm
  have KX := small_of_big KB
  refine law_pre hl hi hlen B F KX KB N hod hop T C2 l0 fun D O ys ds nD nO ord tks o2 tb1 tc m' h' tk eds hys hperm hpw ho2 hmo F1 N1 n1 n2 => ?_
  have hdl : ds.length ≤ 9 := by
    rw [eds, List.length_map, List.length_append, List.length_take]
    show min 6 zs.length + 3 ≤ 9
    omega
  have hd14 : ∀ d ∈ ds, 1 ≤ d ∧ d ≤ 4 := by
    rw [eds]
    intro d hd
    obtain ⟨z, _, rfl⟩ := List.mem_map.mp hd
    have h1 := Int.fmod_lt_of_pos z (b := 4) (by decide)
    have h2 : 0 ≤ z.fmod 4 := Int.fmod_nonneg_of_pos z (by decide)
    omega
  refine law_init B F1 KX KB hmo hop N1 n1 n2 T l0 G fun p d TO TU PL tn q np nPl tb gs dr o1 tv m2 h2 tk2 hq a1 a2 a3 a4 ho1 htb G2 F2 N2 nd => ?_
  rw [body_split]
  refine wpAny_execs_cons (main_loop B F2 KX T a1 a2 a3 a4 ho1 ho2 htb G2 hq N2 nd hys (by omega) hd14 hperm (fun st toldV turnV placeV nTo nTu nPl' tb' m3 h3 gs3 dr3 tk3 hrun P1 P2 P3 hm3 F3 N3 G3 => ?_) hE)
  dsimp only
  have g (x : Str) (r : Option Value) (b1 : (x == Str.ofString "name") = false) (b2 : (x == Str.ofString "lack") = false) (b3 : (x == Str.ofString "mark") = false) (hx : m2 x = r) : m3 x = r := by rw [hm3 x b1 b2 b3]; exact hx
  exact law_end B F3 KX T (g _ _ (by decide) (by decide) (by decide) a1) (g _ _ (by decide) (by decide) (by decide) a3) (g _ _ (by decide) (by decide) (by decide) a4) ho1 ho2 N3 hys (by omega) hd14 hperm hpw hrun P1 P2 P3 fun m4 h4 tk4 F4 N4 => hQ m4 h4 gs3 dr3 tk4 tb1 tc tb' F4 N4 G3
end
theorem law_holds : PySem.Challenge.rw_qw0044_01.Holds := by
  w_on
  o_law
  refine holds_open (q := view) (loose := looseN) (Xt := fun s => xlAt view [] s && recOk (RowW.records PySem.Challenge.rw_qw0044_01.row.toRowW) s) (XP := XL view []) (Yf := Hook.obs H) (Ya := Hook.val H) (YP := Hook.says H) (N := 3124) left_ok (Hook.of H) (Hook.keeps H) (fun s e => xl_of s (Bool.and_eq_true_iff.mp e).1) XL.keeps (by rfl) (by rfl) (by rfl) (fun s e => recFacts_of (Bool.and_eq_true_iff.mp e).2) (by rfl) (by first | assumption | decide +kernel) (by decide +kernel) ⟨rfl, rfl, rfl, rfl, rfl, by decide +kernel⟩ ?hw ?hc
  case hw => w_witness2
  case hc =>
   w_strict (
  k_fill
  intro w s₀ s₁ mg mb G Y fa o pm cd doc dV kV ho hd hcd hD hmg hg args vals as hpre hlay hrd hwl hlo
  have KX := km_in_of Y
  have hT8 := km_tabs_of Y
  have X := (Ground.X G).1
  have V := (Ground.X G).2
  refine Ground.open G ?_
  intro T B D TE TW
  try (refine guard_noD D (by decide +kernel) ?_; clear D)
  have hT9 : TabsAt ([(111, 107), (229, 227), (74, 70)] : List (Addr × Addr)) s₁.heap :=
    List.forall_mem_cons.mpr ⟨⟨codeHd_of_K (c := 111) (P := 107) KX (by kernel_rfl), hT8 107 (by k_mem)⟩,
      List.forall_mem_cons.mpr ⟨⟨codeHd_of_K (c := 229) (P := 227) KX (by kernel_rfl), hT8 227 (by k_mem)⟩,
        List.forall_mem_cons.mpr ⟨⟨codeHd_of_K (c := 74) (P := 70) KX (by kernel_rfl), hT8 70 (by k_mem)⟩, fun _ h => nomatch h⟩⟩⟩
  have he9 : cd = PySem.Value.ref 229 := law_code (x := PySem.Str.ofString "law") (c := 229) (P := 227) KX (Top.g T) (by kernel_rfl) hmg ho hd
  subst he9
  clear hmg
  wrow_args hpre hlay hrd hwl hlo
  all_goals (
    refine enter_call ?_
    w_top on
    refine my_post hT9 (fun _ => rfl) ?hpost ?_
    case hpost => first | rfl | wrow_post | (unfold RowW.claim; decide)
    w_call any ho hd hcd hD T F
    clear hd
    kn_ghosts F T
    k_drop
    skip)
  have LA := @law_all w
  have h0 : PySem.Challenge.rw_qw0044_01.Holds ∨ (Mine.hd.heap_1 w.params).In default ∨ True := .inr (.inr trivial)
  revert h0
  k_fill
  intro h0
  clear h0
  refine' (fun e3 => ?main) (fd_pick (w := w) ?hp)
  case hp => k_is
  rotate_left
  unfold lawBody lawEnv at LA
  rw [e3] at LA
  dsimp only [bodyOf] at LA
  rename Fr _ _ _ _ => F9
  rename News _ _ _ _ => N9
  rename Below _ _ _ _ => B9
  rename Top _ _ _ _ _ _ => T9
  rename Frag.In _ _ => KB9
  rename CodeHd _ (Prod.fst (229, _)) _ => C9
  rename Heap.IsList (ghostOf _ _) _ _ => L9
  rename IntsAre _ _ => I9
  rename (107 : Nat) < _ ∧ _ => l9
  rename_i ho1 ho2 x9 c9
  refine LA L9 I9 ?len B9 F9 ?hmm KB9 N9 ?hod ?hop T9 C9 l9 ?G ?hQ ?hE
  case len => omega
  case hmm => rfl
  case hod => exact ho1
  case hop => exact ho2
  case G => rw [hg]; intro i hi; exact absurd hi (by simp)
  case hQ =>
    intro m' h' gs dr tk tb1 tc tb F N G
    exact ⟨rfl, F.keep, rfl, G, ⟨tb1, (N (107, _) (by k_mem)).1⟩, ⟨tc, (N (227, _) (by k_mem)).1⟩, ⟨tb, (N (70, _) (by k_mem)).1⟩, trivial⟩
  case hE => passes_own)
end Mine
end

theorem PySem.Challenge.cw_qw0044_01_holds : PySem.Challenge.rw_qw0044_01.Holds :=
  Mine.law_holds
