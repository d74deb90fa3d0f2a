import PyProof.Rows.All
import Wide.All
import OpenK.AllK
import Wide.FinOn
import PySem.Challenge.RW_sr0019_01
set_option Elab.async false
set_option maxRecDepth 100000
set_option maxHeartbeats 0
/- Hd -/
section
open PySem PySem.W PyProof.Rows
namespace Mine
open_top head for PySem.Challenge.rw_sr0019_01
end Mine

end

/- Base -/
noncomputable section
open PySem PySem.W PySem.Spec PySem.Calls PyProof.Rows

namespace Mine

noncomputable abbrev LS : List PySem.Str := looseW head.view_39 [Str.ofString "Flags", Str.ofString "insort_left", Str.ofString "bisect_left"]
/-- what a call of the def at f gives: the answer r and the ledger nx behind it -/
noncomputable def Spec (w : World) (mean : ExcName → Option Value) (mg mb : PySem.Str → Option Value) (need : Nat) (f : Addr) (news : List (Addr × Obj)) (vs : List Value) (out : Value → List (Addr × Obj) → Prop) : Prop :=
  ∀ (dp un : Nat) (gd : Option (List Code)) (cn : PySem.Str) (cs : Scope) (a : Addr) (ccd : Value) (cl : List (PySem.Str × Addr)) (outer : List Env) (A₀ : Around) (base h₀ : Heap) (L : Addr) (m : PySem.Str → Option Value) (s : Shared) (Q E : Value → Shared → Prop),
    Below A₀ base outer h₀ → Fr h₀ L s.heap m → (head.heap_39 w.params).In h₀ → News h₀ L s.heap news → Top head.view_39 LS mean mg mb h₀ → cs.kind = .function →
    dp + need < recursionLimit → un + 16 * need < cLine →
    (∀ r nx h' tk', Fr h₀ L h' m → News h₀ L h' nx → out r nx → Q r { s with heap := h', toks := tk' }) →
    wpAny (model PySem.Challenge.rw_sr0019_01.row.prog w) (ktrTop dp un gd cn cs L a ccd cl outer) (call (.ref f) vs) Q E s
theorem Spec.use {w : World} {mean : ExcName → Option Value} {mg mb : PySem.Str → Option Value} {need : Nat} {f : Addr} {news : List (Addr × Obj)} {vs : List Value} {out : Value → List (Addr × Obj) → Prop}
    {dp un : Nat} {gd : Option (List Code)} {cn : PySem.Str} {cs : Scope} {a : Addr} {ccd : Value} {cl : List (PySem.Str × Addr)} {outer : List Env} {A₀ : Around} {base h₀ : Heap} {L : Addr} {m : PySem.Str → Option Value} {s : Shared} {Q E : Value → Shared → Prop}
    (S : Spec w mean mg mb need f news vs out) (B : Below A₀ base outer h₀) (F : Fr h₀ L s.heap m) (X : (head.heap_39 w.params).In h₀) (N : News h₀ L s.heap news) (T : Top head.view_39 LS mean mg mb h₀) (hk : cs.kind = .function)
    (hd : dp + need < recursionLimit) (hu : un + 16 * need < cLine)
    (k : ∀ r nx h' tk', Fr h₀ L h' m → News h₀ L h' nx → out r nx → Q r { s with heap := h', toks := tk' }) :
    wpAny (model PySem.Challenge.rw_sr0019_01.row.prog w) (ktrTop dp un gd cn cs L a ccd cl outer) (call (.ref f) vs) Q E s := S _ _ _ _ _ _ _ _ _ _ _ _ _ _ _ _ _ B F X N T hk hd hu k
end Mine
end

/- Num -/
noncomputable section
open PySem PySem.W PySem.Spec PySem.Calls PyProof.Rows

namespace Mine
noncomputable def numOf (l : List Int) : Int := l.foldl (fun n c => 16 * n + c - 65) 0
theorem numOf_snoc {l : List Int} {n c : Int} (h : n = numOf l) : 16 * n + c - 65 = numOf (l ++ [c]) := by
  subst h; simp [numOf, List.foldl_append]
theorem num_spec (w : World) (mean : ExcName → Option Value) (mg mb : PySem.Str → Option Value) (news : List (Addr × Obj)) (b : Array UInt8) (tb : Tok) :
    Spec w mean mg mb 1 101 news [.bytes b tb] (fun r nx => nx = news ∧ ∃ t, r = .int (numOf (KBw.bInts b)) t) := by
  unfold Spec; k_fill; w_top off
  intro dp un gd cn cs a ccd cl outer A₀ base h₀ L m s Q E B F X N T hk hd hu hret
  k_with_none
  k_with "pyIter bytes" => k_state (fun pre n => n = numOf pre) "number"
  k_with "state" => first | exact rfl | exact numOf_snoc (by assumption)
  refine wpAny_call ?_
  k_dflt cell_enter
  k_steps
  all_goals exact hret _ _ _ _ (by assumption) (by assumption) ⟨rfl, _, by congr⟩
end Mine
end

/- Int2ap -/
noncomputable section
open PySem PySem.W PySem.Spec PySem.Calls PyProof.Rows

namespace Mine
noncomputable def wordOf (n : Nat) : List UInt8 := if h : n = 0 then [] else wordOf (n / 16) ++ [(65 + n % 16).toUInt8]
decreasing_by omega
theorem wordOf_len : ∀ (k n : Nat), n < 16 ^ k → (wordOf n).length ≤ k := by
  intro k
  induction k with
  | zero => intro n h; have : n = 0 := by simpa using h
            subst this; rw [wordOf]; simp
  | succ k ih =>
    intro n h
    rw [wordOf]
    split
    · simp
    · have := ih (n / 16) (by rw [Nat.pow_succ] at h; omega)
      simp; omega
noncomputable abbrev apB : Array UInt8 := #[65, 66, 67, 68, 69, 70, 71, 72, 73, 74, 75, 76, 77, 78, 79, 80]
theorem i2_start {n : Int} (hn : n.natAbs < 2 ^ 60) : 0 ≤ (if n < 0 then -n else n) ∧ (if n < 0 then -n else n) < 2 ^ 60 ∧ (#[] : Array UInt8).size < 20 ∧ (16 ^ (#[] : Array UInt8).size * (if n < 0 then -n else n) < 2 ^ 60) ∧ wordOf (if n < 0 then -n else n).toNat ++ (#[] : Array UInt8).toList = wordOf n.natAbs := by
  have e : (if n < 0 then -n else n).toNat = n.natAbs := by split <;> omega
  refine ⟨by split <;> omega, by split <;> omega, by decide, by simp; split <;> omega, ?_⟩
  rw [e]; simp
theorem i2_turn {k : Int} {b : Array UInt8} {v : List UInt8} (h : 0 ≤ k ∧ k < 2 ^ 60 ∧ b.size < 20 ∧ 16 ^ b.size * k < 2 ^ 60 ∧ wordOf k.toNat ++ b.toList = v) (hk : k ≠ 0) :
    0 ≤ k.fdiv 16 ∧ k.fdiv 16 < 2 ^ 60 ∧ (#[(65 + (k.fmod 16).toNat).toUInt8] ++ b).size < 20 ∧ 16 ^ (#[(65 + (k.fmod 16).toNat).toUInt8] ++ b).size * k.fdiv 16 < 2 ^ 60 ∧ wordOf (k.fdiv 16).toNat ++ (#[(65 + (k.fmod 16).toNat).toUInt8] ++ b).toList = v := by
  obtain ⟨h0, h1, h2, h3, h4⟩ := h
  have e1 : k.fdiv 16 = k / 16 := Int.fdiv_eq_ediv_of_nonneg _ (by decide)
  have e2 : k.fmod 16 = k % 16 := Int.fmod_eq_emod_of_nonneg _ (by decide)
  rw [e1, e2]
  have e3 : (k / 16).toNat = k.toNat / 16 := by omega
  have e4 : (k % 16).toNat = k.toNat % 16 := by omega
  have sz : (#[(65 + (k % 16).toNat).toUInt8] ++ b).size = b.size + 1 := by simp; omega
  have hp : (16 : Int) ^ b.size * 16 * (k / 16) ≤ 16 ^ b.size * k := by
    rw [Int.mul_assoc]
    exact Int.mul_le_mul_of_nonneg_left (by omega) (Int.pow_nonneg (by decide))
  have hsz : b.size < 15 := by
    rcases Nat.lt_or_ge b.size 15 with q | q
    · exact q
    · exfalso
      have : (16 : Int) ^ 15 ≤ 16 ^ b.size := by
        have := Nat.pow_le_pow_right (n := 16) (by decide) q
        exact_mod_cast this
      have h5 : (16 : Int) ^ b.size * 1 ≤ 16 ^ b.size * k := Int.mul_le_mul_of_nonneg_left (by omega) (Int.pow_nonneg (by decide))
      have : (16 : Int) ^ 15 = 2 ^ 60 := by decide
      omega
  refine ⟨by omega, by omega, by rw [sz]; omega, by rw [sz, Int.pow_succ]; omega, ?_⟩
  rw [e3, e4, ← h4]
  conv => rhs; rw [wordOf]
  rw [dif_neg (by omega)]
  simp
theorem i2_less {k : Int} (h : 0 ≤ k) (hk : k ≠ 0) : (k.fdiv 16).toNat < k.toNat := by
  rw [Int.fdiv_eq_ediv_of_nonneg _ (by decide)]; omega
theorem i2_done {k : Int} {b : Array UInt8} {v : List UInt8} (h : wordOf k.toNat ++ b.toList = v) (hk : k = 0) : b = v.toArray := by
  subst hk
  rw [← h, wordOf]; simp
theorem ap_pick (m : Nat) (h : m < 16) : KBy.picked apB (some (m : Int)) (some ((m : Int) + 1)) = #[(65 + m).toUInt8] := by
  have : ∀ m : Fin 16, KBy.picked apB (some ((m.val : Nat) : Int)) (some (((m.val : Nat) : Int) + 1)) = #[(65 + m.val).toUInt8] := by decide +kernel
  exact this ⟨m, h⟩
section
variable {prog : Program} {w : World} {A : Around} {E : Value → Shared → Prop} {s : Shared} {value slice : PySem.Expr} {t t1 t2 : Tok} {h₀ : Heap} {L : Addr} {m : PySem.Str → Option Value} {news : List (Addr × Obj)} {k : Int} {Q : Value → Shared → Prop}
theorem ap_slice (hF : Fr h₀ L s.heap m) (hN : News h₀ L s.heap news) (h0 : 0 ≤ k) (h1 : k < 16)
    (h : ∀ h' t' tk, Fr h₀ L h' m → News h₀ L h' news → Q (.bytes #[(65 + k.toNat).toUInt8] t') { s with heap := h', toks := tk })
    (hs : subscripted slice false (.bytes apB t) (.ref s.heap.objs.size) = operate [.ref s.heap.objs.size, .bytes apB t] (getItem (.bytes apB t) (.ref s.heap.objs.size)))
    (ht : ∀ r, letTemporaryGo value (.bytes apB t) r = pure ()) :
    wpAny (model prog w) A (subscriptTail value slice (.bytes apB t) (.ref s.heap.objs.size)) Q E { s with heap := s.heap.push { cls := .type "slice", data := .fields #[.int k t1, .int (k + 1) t2, .none] } } := by
  refine KBc.slice_K (b := apB) (ks := KBw.bInts apB) hF hN rfl (.int _ _) (.int _ _) (by decide) ?_ hs ht
  intro h' t' tk F' N' _
  have e : KBy.picked apB (some k) (some (k + 1)) = #[(65 + k.toNat).toUInt8] := by
    have := ap_pick k.toNat (by omega)
    rwa [Int.toNat_of_nonneg h0] at this
  rw [e]
  exact h h' t' tk F' N'
end
theorem fmod16 (k : Int) : 0 ≤ k.fmod 16 ∧ k.fmod 16 < 16 := by
  rw [Int.fmod_eq_emod_of_nonneg _ (by decide)]; omega
local macro_rules | `(tactic| walk_at $s:str) => `(tactic| k_extra $s)
theorem int2ap_spec (w : World) (mean : ExcName → Option Value) (mg mb : PySem.Str → Option Value) (news : List (Addr × Obj)) (n : Int) (tb : Tok) (hn : n.natAbs < 2 ^ 60) :
    Spec w mean mg mb 1 43 news [.int n tb] (fun r nx => nx = news ∧ ∃ t, r = .bytes (wordOf n.natAbs).toArray t) := by
  unfold Spec; k_fill; w_top off
  intro dp un gd cn cs a ccd cl outer A₀ base h₀ L m s Q E B F X N T hk hd hu hret
  k_with_none
  k_with "subscriptTail Name Slice bytes ref" => (k_here; (with_reducible rename Fr _ _ _ _ => F'); (with_reducible rename News _ _ _ _ => N'); refine ap_slice (s := ⟨_, _, _, _, _⟩) F' N' (fmod16 _).1 (fmod16 _).2 ?_ (by with_unfolding_all rfl) (by intro _; with_unfolding_all rfl); intro h' t' tk' F' N')
  k_with "exec While Name cons nil" => k_while (fun _ k b => 0 ≤ k ∧ k < 2 ^ 60 ∧ b.size < 20 ∧ 16 ^ b.size * k < 2 ^ 60 ∧ wordOf k.toNat ++ b.toList = wordOf n.natAbs) (fun _ k _ => k.toNat) "num" "val"
  k_with "state" => first | exact i2_start (by assumption) | exact i2_turn ⟨by assumption, by assumption, by assumption, by assumption, by assumption⟩ (by assumption)
  k_with "measure" => exact i2_less (by assumption) (by assumption)
  refine wpAny_call ?_
  k_dflt cell_enter
  k_steps
  all_goals (rename wordOf _ ++ _ = _ => hw; have hb := i2_done hw (by assumption); subst hb; exact hret _ _ _ _ (by assumption) (by assumption) ⟨rfl, _, rfl⟩)
end Mine
end

/- Bj -/
noncomputable section
open PySem PySem.W PySem.Spec PySem.Calls PyProof.Rows

namespace Mine
open Builtin
theorem slot_bytes_join : Slot "bytes" "join" "bytes.join" :=
  .of (owner := "bytes") (n := "join") (by rw [typeLookup_type, builtinLookup_eq_fast]; kernel_rfl) (by decide +kernel) (by decide +kernel) (by decide +kernel)
    (by first | exact .inl (by decide +kernel) | exact .inr (by decide +kernel)) (by rw [isSubtype_type]; kernel_rfl)
theorem type_bytes_join : typeOf (.builtin "bytes.join") = pure (.type "method_descriptor") := by show builtinType _ = _; rw [builtinType_eq_fast]; kernel_rfl
theorem entry_bytes_join : entryFor table "bytes.join" = some Builtin.«bytes.join» := entryFor_of_tree (by kernel_rfl)
theorem args_bytes_join (a b : Value) : argsOk "bytes.join" ⟨[a, b], []⟩ := by unfold argsOk; kernel_rfl
theorem slot_bytes_split : Slot "bytes" "split" "bytes.split" :=
  .of (owner := "bytes") (n := "split") (by rw [typeLookup_type, builtinLookup_eq_fast]; kernel_rfl) (by decide +kernel) (by decide +kernel) (by decide +kernel)
    (by first | exact .inl (by decide +kernel) | exact .inr (by decide +kernel)) (by rw [isSubtype_type]; kernel_rfl)
theorem type_bytes_split : typeOf (.builtin "bytes.split") = pure (.type "method_descriptor") := by show builtinType _ = _; rw [builtinType_eq_fast]; kernel_rfl
theorem entry_bytes_split : entryFor table "bytes.split" = some Builtin.«bytes.split» := entryFor_of_tree (by kernel_rfl)
theorem args_bytes_split (a : Value) : argsOk "bytes.split" ⟨[a], []⟩ := by unfold argsOk; kernel_rfl
section
variable {b : Array UInt8} {t : Tok}
theorem take_eq {id : String} {fl : Int} : Bytes.takeBuffer? id (.bytes b t) fl = pure (some (b, none)) := by
  unfold Bytes.takeBuffer?
  rw [KBy.special_eq KBy.look_buffer, KBy.own_buffer]
  have : ∀ f, Bytes.buffer? id (.bytes b t) f = pure (some b) := fun f => by
    unfold Bytes.buffer?
    rw [KBy.special_eq KBy.look_buffer, KBy.own_buffer, KBy.own_release]
    kernel_rfl
  simp only [pure_bind, this]
  rfl
theorem quiet_take {id : String} {fl : Int} : Bytes.takeBufferQuiet? id (.bytes b t) fl = pure (some (b, none)) := by
  unfold Bytes.takeBufferQuiet?
  rw [take_eq]
  rfl
end
theorem meets_join3 (sep x y z : Array UInt8) (t t1 t2 t3 : Tok) (l : Addr) :
    Meets (Builtin.«bytes.join» ⟨[.bytes sep t, .ref l], []⟩) (fun _ R s => s.heap.IsList l #[.bytes x t1, .bytes y t2, .bytes z t3] ∧ sep.size * 2 + x.size + y.size + z.size ≤ 16777216 ∧
      ∀ t' k, R (.ok (.ret (.bytes (x ++ sep ++ y ++ sep ++ z) t'))) { s with toks := k }) := by
  refine .of_wp fun prog w A R s hS => ?_
  obtain ⟨⟨o, ho, hc, n, hd⟩, hsz, h⟩ := hS
  have hT : s.TypeIs (.ref l) "list" := ⟨o, ho, hc⟩
  have items : ∀ {Q : Option (Array Value) → Shared → Prop} {E}, Q (some #[.bytes x t1, .bytes y t2, .bytes z t3]) s → wpAny (model prog w) A.in1 (seqItems? (.ref l)) Q E s := fun hq => by
    unfold seqItems?
    refine wpAny_bind (wpAny_load ho ?_)
    rw [hd]
    exact wpAny_pure hq
  show wpAny _ _ (Bytes.joinM .bytes _) _ _ s
  unfold Bytes.joinM
  refine wpAny_bind (wpAny_of_eq (a := (Value.bytes sep t, Value.ref l)) rfl ?_)
  show wpAny _ _ (Bytes.joinItems (.ref l) >>= _) _ _ s
  refine wpAny_bind ?_
  unfold Bytes.joinItems
  refine wpAny_bind (wpAny_typeOf hT ?_)
  refine wpAny_ite ?_
  rw [if_pos (by decide)]
  refine wpAny_pure ?_
  refine wpAny_bind (items ?_)
  have turn : ∀ {α : Type} (b : Array UInt8) (tb : Tok) (hv : List Value) (id : String) (k : Option (Array UInt8 × Option Value) → Sem α) (Q : α → Shared → Prop) (E : Value → Shared → Prop), wpAny (model prog w) A.in1 (k (some (b, none))) Q E s → wpAny (model prog w) A.in1 (holding (.bytes b tb :: hv) (Bytes.takeBufferQuiet? id (.bytes b tb) 0) >>= k) Q E s := fun b tb hv id k Q E hk =>
    wpAny_bind (wpAny_holding (wpAny_of_eq quiet_take hk))
  show wpAny _ _ (forIn [:3] (#[], []) _ >>= _) _ _ _
  rw [Std.Legacy.Range.forIn_eq_forIn_range']
  show wpAny _ _ (forIn [0, 1, 2] (#[], []) _ >>= _) _ _ _
  refine wpAny_bind ?_
  rw [List.forIn_cons]
  refine wpAny_bind ?_
  refine wpAny_bind (items ?_)
  refine turn x t1 _ _ _ _ _ ?_
  refine wpAny_bind (items ?_)
  refine wpAny_pure ?_
  show wpAny _ _ (forIn [1, 2] _ _) _ _ _
  rw [List.forIn_cons]
  refine wpAny_bind ?_
  refine wpAny_bind (items ?_)
  refine turn y t2 _ _ _ _ _ ?_
  refine wpAny_bind (items ?_)
  refine wpAny_pure ?_
  show wpAny _ _ (forIn [2] _ _) _ _ _
  rw [List.forIn_cons]
  refine wpAny_bind ?_
  refine wpAny_bind (items ?_)
  refine turn z t3 _ _ _ _ _ ?_
  refine wpAny_bind (items ?_)
  refine wpAny_pure ?_
  show wpAny _ _ (forIn [] _ _) _ _ _
  rw [List.forIn_nil]
  refine wpAny_pure ?_
  refine wpAny_bind (wpAny_of_eq (a := sep) rfl ?_)
  have long : ¬ Bytes.tooLong (Array.foldl (fun x1 (x2 : Array UInt8) => x1 + x2.size) (sep.size * (#[x, y, z].size - 1)) #[x, y, z]) = true := by
    have e : Array.foldl (fun x1 (x2 : Array UInt8) => x1 + x2.size) (sep.size * (#[x, y, z].size - 1)) #[x, y, z] = sep.size * 2 + x.size + y.size + z.size := by simp
    rw [e, KBy.tooLong_not (by omega)]
    exact Bool.false_ne_true
  refine wpAny_ite (KBy.ite_no long ?_)
  have ej : Bytes.joined sep [x, y, z] = x ++ sep ++ y ++ sep ++ z := by
    unfold Bytes.joined
    simp [List.zipIdx]
  show wpAny _ _ (mkBytes (Bytes.joined sep [x, y, z]) >>= _) _ _ _
  rw [ej]
  refine wpAny_bind (wpAny_mkBytes ?_ ?_)
  · refine wpAny_bind (wpAny_holding (wpAny_point ?_))
    refine wpAny_bind ?_
    show wpAny _ _ (Bytes.joinLetGo [(.bytes x t1, none), (.bytes y t2, none), (.bytes z t3, none)] _) _ _ _
    have go : ∀ (rest : List (Value × Option Value)) (b : Array UInt8) (tb : Tok) (keep : List Value) (Q : Unit → Shared → Prop) (E : Value → Shared → Prop) (s : Shared), wpAny (model prog w) A.in1 (Bytes.joinLetGo rest keep) Q E s → wpAny (model prog w) A.in1 (Bytes.joinLetGo ((.bytes b tb, none) :: rest) keep) Q E s := by
      intro rest b tb keep Q E s hk
      show wpAny _ _ (letGo [.bytes b tb] _ >>= _) _ _ _
      refine wpAny_bind ?_
      unfold letGo
      refine wpAny_bind (wpAny_holding (wpAny_point ?_))
      unfold letGo
      exact wpAny_pure hk
    refine go _ _ _ _ _ _ _ (go _ _ _ _ _ _ _ (go _ _ _ _ _ _ _ ?_))
    unfold Bytes.joinLetGo
    refine wpAny_pure ?_
    exact wpAny_pure ⟨_, rfl, h _ _⟩
  · rw [sizeLine_eq]; simp; omega
section
variable {prog : Program} {w : World} {A : Around} {E : Value → Shared → Prop} {s : Shared} {sep x y z : Array UInt8} {t t1 t2 t3 : Tok} {l : Addr} {h₀ : Heap} {L : Addr} {news : List (Addr × Obj)} {n : Nat} {Q : Value → Shared → Prop}
theorem join3 (N : News h₀ L s.heap news) (hm : (l, PySem.W.listOf #[.bytes x t1, .bytes y t2, .bytes z t3] n) ∈ news) (hsz : sep.size * 2 + x.size + y.size + z.size ≤ 16777216)
    (h : ∀ t' k, Q (.bytes (x ++ sep ++ y ++ sep ++ z) t') { s with toks := k }) : wpAny (model prog w) A (call (.builtin "bytes.join") [.bytes sep t, .ref l]) Q E s :=
  call_meets slot_bytes_join (typeIs_bytes _ _ _) entry_bytes_join (args_bytes_join _ _) (meets_join3 sep x y z t t1 t2 t3 l) ⟨⟨_, N.get hm, rfl, _, rfl⟩, hsz, h⟩
theorem get_join {M : Model} {pl : Sem Bool} {Q : Value × List Value → Shared → Prop} (h : Q (.builtin "bytes.join", [.bytes sep t]) s) : wpAny M A (getMethod (.bytes sep t) (PySem.Str.ofString "join") pl) Q E s := by
  with_reducible exact KBd.method_of (.bytes sep t) (typeIs_bytes _ _ _) slot_bytes_join type_bytes_join KBd.noRef h
end
end Mine
end

/- Sent -/
noncomputable section
open PySem PySem.W PySem.Spec PySem.Calls PyProof.Rows

namespace Mine
noncomputable def st1 (x : Int × Int × Int) (c : Int) : Int × Int × Int := (x.2.2, (c - 73) * x.2.2 - x.2.1, (c - 73) * (c - 73) * x.2.2 - 2 * (c - 73) * x.2.1 + x.1)
noncomputable def okLet (l : List Int) : Prop := l.length ≤ 4 ∧ ∀ c ∈ l, 65 ≤ c ∧ c ≤ 80
noncomputable def bdd (B : Int) (x : Int × Int × Int) : Prop := -B ≤ x.1 ∧ x.1 ≤ B ∧ -B ≤ x.2.1 ∧ x.2.1 ≤ B ∧ -B ≤ x.2.2 ∧ x.2.2 ≤ B
theorem mul_bdd {k x B : Int} (hk : -8 ≤ k ∧ k ≤ 8) (h1 : -B ≤ x) (h2 : x ≤ B) : -(8 * B) ≤ k * x ∧ k * x ≤ 8 * B := by
  have hx : x.natAbs ≤ B.natAbs := by omega
  have hB : 0 ≤ B := by omega
  have hk8 : k.natAbs ≤ 8 := by omega
  have h : (k * x).natAbs ≤ 8 * B.natAbs := by rw [Int.natAbs_mul]; exact Nat.mul_le_mul hk8 hx
  generalize k * x = z at h
  omega
theorem st1_bdd {B c : Int} {x : Int × Int × Int} (hB : 0 ≤ B) (hc : 65 ≤ c ∧ c ≤ 80) (h : bdd B x) : bdd (81 * B) (st1 x c) := by
  obtain ⟨a, b, d⟩ := x
  obtain ⟨h1, h2, h3, h4, h5, h6⟩ := h
  have hk : -8 ≤ c - 73 ∧ c - 73 ≤ 8 := by omega
  have m1 := mul_bdd hk h5 h6
  have m2 := mul_bdd hk m1.1 m1.2
  have m3 := mul_bdd hk h3 h4
  have e1 : (c - 73) * (c - 73) * d = (c - 73) * ((c - 73) * d) := Int.mul_assoc _ _ _
  have e2 : 2 * (c - 73) * b = 2 * ((c - 73) * b) := Int.mul_assoc _ _ _
  simp only [bdd, st1] at *
  rw [e1, e2]
  refine ⟨?_, ?_, ?_, ?_, ?_, ?_⟩ <;> omega
theorem fold_bdd : ∀ (l : List Int) (B : Int) (x : Int × Int × Int), 0 ≤ B → (∀ c ∈ l, 65 ≤ c ∧ c ≤ 80) → bdd B x → bdd (81 ^ l.length * B) (l.foldl st1 x) := by
  intro l
  induction l with
  | nil => intro B x hB _ h; simpa using h
  | cons c l ih =>
    intro B x hB hl h
    have := ih (81 * B) (st1 x c) (by omega) (fun d hd => hl d (.tail _ hd)) (st1_bdd hB (hl c (.head _)) h)
    rw [List.foldl_cons, List.length_cons, Int.pow_succ, Int.mul_assoc]
    exact this
theorem bdd_mono {B C : Int} {x : Int × Int × Int} (h : bdd B x) (hBC : B ≤ C) : bdd C x := by
  unfold bdd at *; omega
theorem fold_fits {l : List Int} {x : Int × Int × Int} (hl : okLet l) (h : bdd 10 x) : bdd 430467210 (l.foldl st1 x) := by
  refine bdd_mono (fold_bdd l 10 x (by decide) hl.2 h) ?_
  have : (81 : Int) ^ l.length ≤ 81 ^ 4 := by
    have := Nat.pow_le_pow_right (n := 81) (by decide) hl.1
    exact_mod_cast this
  have e : (81 : Int) ^ 4 = 43046721 := by decide
  omega
theorem okLet_pre {l pre post : List Int} {n : Int} (hl : okLet l) (e : l = pre ++ n :: post) : okLet (pre ++ [n]) := by
  subst e
  obtain ⟨h1, h2⟩ := hl
  simp only [List.length_append, List.length_cons] at h1
  refine ⟨by simp; omega, fun c hc => h2 c ?_⟩
  simp only [List.mem_append, List.mem_cons, List.not_mem_nil, or_false] at hc ⊢
  rcases hc with h | h
  · exact .inl h
  · exact .inr (.inl h)
noncomputable def sentI (x0 : Int × Int × Int) (pre : List Int) (a b c : Int) : Prop := (a, b, c) = pre.foldl st1 x0 ∧ -2^40 < a ∧ a < 2^40 ∧ -2^40 < b ∧ b < 2^40 ∧ -2^40 < c ∧ c < 2^40
theorem sentI_of {x0 : Int × Int × Int} {pre : List Int} {a b c : Int} (h0 : bdd 10 x0) (hl : okLet pre) (e : (a, b, c) = pre.foldl st1 x0) : sentI x0 pre a b c := by
  have := fold_fits hl h0
  rw [← e] at this
  simp only [bdd] at this
  exact ⟨e, by omega, by omega, by omega, by omega, by omega, by omega⟩
theorem x0_bdd {p q r : Int} (hp : 0 ≤ p ∧ p ≤ 5) (hq : 0 ≤ q ∧ q ≤ 5) (hr : 0 ≤ r ∧ r ≤ 5) : bdd 10 (p + r, -r, q + r) := by
  simp only [bdd]; omega
theorem sent_start {p q r : Int} (hp : 0 ≤ p ∧ p ≤ 5) (hq : 0 ≤ q ∧ q ≤ 5) (hr : 0 ≤ r ∧ r ≤ 5) : sentI (p + r, -r, q + r) [] (p + r) (-r) (q + r) :=
  sentI_of (x0_bdd hp hq hr) ⟨by decide, fun _ h => nomatch h⟩ rfl
theorem sent_turn {p q r : Int} (hp : 0 ≤ p ∧ p ≤ 5) (hq : 0 ≤ q ∧ q ≤ 5) (hr : 0 ≤ r ∧ r ≤ 5) {l pre post : List Int} {n a b c : Int} (hl : okLet l) (e : l = pre ++ n :: post) (h : (a, b, c) = pre.foldl st1 (p + r, -r, q + r)) :
    sentI (p + r, -r, q + r) (pre ++ [n]) c ((n - 73) * c - b) ((n - 73) * (n - 73) * c - 2 * (n - 73) * b + a) :=
  sentI_of (x0_bdd hp hq hr) (okLet_pre hl e) (by rw [List.foldl_append, ← h]; rfl)
noncomputable def lineOf (x : Int × Int × Int) : Array UInt8 := #[42, 32, 55, 32, 70, 69, 84, 67, 72, 32, 40, 70, 76, 65, 71, 83, 32, 40] ++ ((wordOf x.1.natAbs).toArray ++ #[32] ++ (wordOf x.2.1.natAbs).toArray ++ #[32] ++ (wordOf x.2.2.natAbs).toArray) ++ #[41, 32, 85, 73, 68, 32, 49, 50, 41]
theorem line_eq {X : Array UInt8} {a b c : Int} {l : List Int} {x0 : Int × Int × Int} (h : (a, b, c) = l.foldl st1 x0) (e : X = (wordOf a.natAbs).toArray ++ #[32] ++ (wordOf b.natAbs).toArray ++ #[32] ++ (wordOf c.natAbs).toArray) :
    #[42, 32, 55, 32, 70, 69, 84, 67, 72, 32, 40, 70, 76, 65, 71, 83, 32, 40] ++ X ++ #[41, 32, 85, 73, 68, 32, 49, 50, 41] = lineOf (l.foldl st1 x0) := by
  rw [← h, e]; rfl
local macro_rules | `(tactic| walk_at $s:str) => `(tactic| k_extra $s)
theorem join3w {prog : Program} {w : World} {A : Around} {E : Value → Shared → Prop} {s : Shared} {i1 i2 i3 : Nat} {t t1 t2 t3 : Tok} {l : Addr} {h₀ : Heap} {L : Addr} {news : List (Addr × Obj)} {n : Nat} {Q : Value → Shared → Prop}
    (N : News h₀ L s.heap news) (hm : (l, PySem.W.listOf #[.bytes (wordOf i1).toArray t1, .bytes (wordOf i2).toArray t2, .bytes (wordOf i3).toArray t3] n) ∈ news) (h1 : i1 < 2 ^ 60) (h2 : i2 < 2 ^ 60) (h3 : i3 < 2 ^ 60)
    (h : ∀ X t' k, X = (wordOf i1).toArray ++ #[32] ++ (wordOf i2).toArray ++ #[32] ++ (wordOf i3).toArray → X.size ≤ 60 → Q (.bytes X t') { s with toks := k }) : wpAny (model prog w) A (call (.builtin "bytes.join") [.bytes #[32] t, .ref l]) Q E s := by
  have e1 := wordOf_len 15 i1 (by omega)
  have e2 := wordOf_len 15 i2 (by omega)
  have e3 := wordOf_len 15 i3 (by omega)
  exact join3 N hm (by simp; omega) fun t' k => h _ t' k rfl (by simp; omega)
theorem sent_spec (w : World) (mean : ExcName → Option Value) (mg mb : PySem.Str → Option Value) (news : List (Addr × Obj)) (l : Addr) (p q r : Int) (t1 t2 t3 : Tok) (cc : Nat) (hm : (l, PySem.W.listOf #[.int p t1, .int q t2, .int r t3] cc) ∈ news)
    (hp : 0 ≤ p ∧ p ≤ 5) (hq : 0 ≤ q ∧ q ≤ 5) (hr : 0 ≤ r ∧ r ≤ 5) (b : Array UInt8) (tb : Tok) (hb : okLet (KBw.bInts b)) :
    Spec w mean mg mb 2 94 news [.ref l, .bytes b tb] (fun v nx => nx = news ∧ ∃ t, v = .bytes (lineOf ((KBw.bInts b).foldl st1 (p + r, -r, q + r))) t) := by
  unfold Spec; k_fill; w_top off
  intro dp un gd cn cs a ccd cl outer A₀ base h₀ L m s Q E B F X N T hk hd hu hret
  k_with_none
  k_with "call ref" => (k_here; k_dflt (refine' Spec.use (int2ap_spec _ _ _ _ _ _ _ ?whb) ?wk1 ?wk2 ?wk3 ?wk4 ?wk5 ?wkK ?wkd ?wku ?_; (case wk1 => k_asm); (case wk2 => k_asm); (case wk3 => k_asm); (case wk4 => k_asm); (case wk5 => k_asm); (case wkK => first | exact rfl | assumption); (case wkd => ktr_room); (case wku => ktr_units); (case whb => first | assumption | omega | skip)); intro r' nx' h' tk' F' N' ho'; obtain ⟨e1', t', e2'⟩ := ho'; subst e1' e2'; (try dsimp only))
  k_with "getMethod bytes" => (k_here; refine get_join ?_)
  k_with "call builtin:bytes.join" => (k_here; k_dflt (refine' join3w ?wk1 ?wk2 ?wh1 ?wh2 ?wh3 ?_; (case wk1 => k_asm); (case wk2 => k_mem); (case wh1 => omega); (case wh2 => omega); (case wh3 => omega)); intro X' t' tk' eX' sX')
  k_with "pyIter bytes" => k_state (fun pre a b c => (a, b, c) = pre.foldl st1 (p + r, -r, q + r) ∧ -2^40 < a ∧ a < 2^40 ∧ -2^40 < b ∧ b < 2^40 ∧ -2^40 < c ∧ c < 2^40) "a" "b" "c"
  k_with "state" => first | exact sent_start (by assumption) (by assumption) (by assumption) | exact sent_turn hp hq hr hb (by assumption) (by assumption)
  refine wpAny_call ?_
  k_dflt cell_enter
  k_steps
  all_goals (rename _ = _ ++ _ ++ _ ++ _ ++ _ => hX; rename _ = List.foldl _ _ _ => hf; refine hret _ _ _ _ (by assumption) (cb_drop (by assumption) fun p hp => by simp [hp]) ⟨rfl, _, congrArg (fun z => Value.bytes z _) (line_eq hf hX)⟩)
end Mine
end

/- Rx -/
noncomputable section
open PySem PySem.W PySem.Spec PySem.Calls PyProof.Rows

namespace Mine
open PySem.Sre
noncomputable def codeA : Array Nat := #[14, 4, 0, 8, 4294967295, 24, 5, 0, 4294967295, 2, 1, 16, 70, 16, 76, 16, 65, 16, 71, 16, 83, 16, 32, 16, 40, 17, 0, 24, 6, 0, 4294967295, 20, 41, 1, 17, 1, 16, 41, 1]
noncomputable def iter : Nat → M → M
  | 0, m => m
  | n + 1, m => iter n m.step
theorem iter_add : ∀ (a b : Nat) (m : M), iter (a + b) m = iter b (iter a m)
  | 0, b, m => by rw [Nat.zero_add]; rfl
  | a + 1, b, m => by rw [Nat.succ_add]; exact iter_add a b m.step
theorem step_done {m : M} (h : m.outcome.isSome = true) : m.step = m := by unfold M.step; rw [if_pos h]
theorem runFor_iter : ∀ (n : Nat) (m : M), m.runFor n = iter n m
  | 0, _ => rfl
  | n + 1, m => by
    unfold M.runFor
    by_cases h : m.outcome.isSome = true
    · rw [if_pos h]
      have : ∀ k, iter k m = m := by
        intro k
        induction k with
        | zero => rfl
        | succ k ih => show iter k m.step = m; rw [step_done h]; exact ih
      exact (this _).symm
    · rw [if_neg h]
      exact runFor_iter n m.step
/-- from m one comes to m' in at most k steps -/
noncomputable def Goes (k : Nat) (m m' : M) : Prop := ∃ j, j ≤ k ∧ iter j m = m'
theorem Goes.refl (m : M) : Goes 0 m m := ⟨0, Nat.le_refl _, rfl⟩
theorem Goes.trans {a b : Nat} {x y z : M} (h : Goes a x y) (k : Goes b y z) : Goes (a + b) x z := by
  obtain ⟨i, hi, rfl⟩ := h
  obtain ⟨j, hj, rfl⟩ := k
  exact ⟨i + j, Nat.add_le_add hi hj, iter_add i j x⟩
theorem Goes.one {x y : M} (h : x.step = y) : Goes 1 x y := ⟨1, Nat.le_refl _, h⟩
theorem Goes.mono {a b : Nat} {x y : M} (h : Goes a x y) (hab : a ≤ b) : Goes b x y := by
  obtain ⟨i, hi, e⟩ := h
  exact ⟨i, Nat.le_trans hi hab, e⟩
theorem step_exec {m : M} (h1 : m.outcome = none) (h2 : m.answer = none) (h3 : m.pc < m.code.size) : m.step = m.exec := by
  unfold M.step
  rw [h1, h2]
  simp [h3]
theorem lit_yes {m : M} (h1 : m.outcome = none) (h2 : m.answer = none) (h3 : m.pc < m.code.size) (hop : ops[m.code.getD m.pc 0]? = some .LITERAL) (hp : m.pos < m.lim) (hc : m.text.getD m.pos 0 = m.code.getD (m.pc + 1) 0) :
    m.step = { m with seen := m.seen.add (m.code.getD m.pc 0), pc := m.pc + 2, pos := m.pos + 1 } := by
  rw [step_exec h1 h2 h3]
  unfold M.exec
  have hw : m.word 0 = m.code.getD m.pc 0 := rfl
  rw [hw, hop]
  dsimp only
  rw [if_neg (by omega)]
  unfold accepts
  dsimp only
  rw [hop]
  dsimp only
  rw [hc]
  simp only [beq_self_eq_true]
  unfold itemWidth
  rw [hop]
theorem lit_no {m : M} (h1 : m.outcome = none) (h2 : m.answer = none) (h3 : m.pc < m.code.size) (hop : ops[m.code.getD m.pc 0]? = some .LITERAL) (hc : m.pos < m.lim → m.text.getD m.pos 0 ≠ m.code.getD (m.pc + 1) 0) :
    m.step = { m with seen := m.seen.add (m.code.getD m.pc 0), answer := some false } := by
  rw [step_exec h1 h2 h3]
  unfold M.exec
  have hw : m.word 0 = m.code.getD m.pc 0 := rfl
  rw [hw, hop]
  dsimp only
  by_cases hp : m.pos < m.lim
  · rw [if_neg (by omega)]
    unfold accepts
    dsimp only
    rw [hop]
    dsimp only
    have : (m.text.getD m.pos 0 == m.code.getD (m.pc + 1) 0) = false := by simpa using hc hp
    rw [this]
    rfl
  · rw [if_pos (by omega)]
    rfl
noncomputable def stA (text : Array Nat) (lim p : Nat) (seen : PySem.Sre.Seen) : M :=
  { code := codeA, text := text, lim := lim, start := 0, pc := 11, pos := p, handed := p, marks := #[none, none], frames := [{ wait := .giveBack, pc := 5, pos := p, outermost := true, count := (p : Int), kept := {} }], weight := 1, seen := seen }
theorem give_back {text : Array Nat} {lim q a b : Nat} {seen : PySem.Sre.Seen} : ({ stA text lim (q + 1) seen with pc := a, pos := b, answer := some false } : M).step = stA text lim q seen := by
  have e : ((q + 1 : Nat) : Int) - 1 = (q : Int) := by omega
  unfold M.step stA
  simp [M.resume, M.putBack, M.word, codeA, M.say, M.afterRun, M.attempt, M.frame, e]
theorem hop (j : Nat) (h : j < 7) : ops[codeA.getD (11 + 2 * j) 0]? = some .LITERAL := by
  have : j = 0 ∨ j = 1 ∨ j = 2 ∨ j = 3 ∨ j = 4 ∨ j = 5 ∨ j = 6 := by omega
  rcases this with h | h | h | h | h | h | h <;> subst h <;> rfl
theorem lits_run {text : Array Nat} {lim p : Nat} {seen : PySem.Sre.Seen} : ∀ (j : Nat), j ≤ 7 → (∀ i, i < j → p + i < lim ∧ text.getD (p + i) 0 = codeA.getD (12 + 2 * i) 0) →
    ∃ seen', Goes j (stA text lim p seen) { stA text lim p seen with pc := 11 + 2 * j, pos := p + j, seen := seen' }
  | 0, _, _ => ⟨seen, Goes.refl _⟩
  | j + 1, hj, h => by
    obtain ⟨s1, g1⟩ := lits_run j (by omega) (fun i hi => h i (by omega))
    have hl := h j (by omega)
    have z := lit_yes (m := { stA text lim p seen with pc := 11 + 2 * j, pos := p + j, seen := s1 }) rfl rfl (by show 11 + 2 * j < 39; omega) (hop j (by omega)) hl.1
      (by show text.getD (p + j) 0 = codeA.getD (11 + 2 * j + 1) 0; rw [hl.2]; congr 1; omega)
    refine ⟨_, g1.trans (Goes.one z)⟩
theorem lits_fail {text : Array Nat} {lim q : Nat} {seen : PySem.Sre.Seen} {j : Nat} (hj : j ≤ 6) (h : ∀ i, i < j → q + 1 + i < lim ∧ text.getD (q + 1 + i) 0 = codeA.getD (12 + 2 * i) 0)
    (hn : q + 1 + j < lim → text.getD (q + 1 + j) 0 ≠ codeA.getD (12 + 2 * j) 0) : ∃ seen', Goes 8 (stA text lim (q + 1) seen) (stA text lim q seen') := by
  obtain ⟨s1, g1⟩ := lits_run (seen := seen) j (by omega) h
  have z := lit_no (m := { stA text lim (q + 1) seen with pc := 11 + 2 * j, pos := q + 1 + j, seen := s1 }) rfl rfl (by show 11 + 2 * j < 39; omega) (hop j (by omega))
    (by intro hp; show text.getD (q + 1 + j) 0 ≠ codeA.getD (11 + 2 * j + 1) 0; have := hn hp; rwa [show 12 + 2 * j = 11 + 2 * j + 1 by omega] at this)
  exact ⟨_, (g1.trans ((Goes.one z).trans (Goes.one give_back))).mono (by omega)⟩
theorem first_bad {P : Nat → Prop} [DecidablePred P] : ∀ (n : Nat), ¬ P n → ∃ j, j ≤ n ∧ (∀ i, i < j → P i) ∧ ¬ P j
  | 0, h => ⟨0, Nat.le_refl _, fun i hi => absurd hi (Nat.not_lt_zero _), h⟩
  | n + 1, h => by
    by_cases q : ∀ i, i < n + 1 → P i
    · exact ⟨n + 1, Nat.le_refl _, q, h⟩
    · by_cases hn : P n
      · have : ∃ k, k < n ∧ ¬ P k := by
          refine Classical.byContradiction fun hc => q fun i hi => ?_
          rcases Nat.lt_or_ge i n with h1 | h1
          · exact Classical.byContradiction fun h2 => hc ⟨i, h1, h2⟩
          · have : i = n := by omega
            rw [this]; exact hn
        obtain ⟨k, hk, hk2⟩ := this
        obtain ⟨j, h1, h2, h3⟩ := first_bad k hk2
        exact ⟨j, by omega, h2, h3⟩
      · obtain ⟨j, h1, h2, h3⟩ := first_bad n hn
        exact ⟨j, by omega, h2, h3⟩
theorem down_one {text : Array Nat} {lim q : Nat} {seen : PySem.Sre.Seen} (hq : 11 ≤ q) (hS : ∀ k, 16 ≤ k → k < lim → text.getD k 0 ≠ 83) : ∃ seen', Goes 8 (stA text lim (q + 1) seen) (stA text lim q seen') := by
  obtain ⟨j, hj, h1, h2⟩ := first_bad (P := fun i => q + 1 + i < lim ∧ text.getD (q + 1 + i) 0 = codeA.getD (12 + 2 * i) 0) 4 (fun h => hS (q + 1 + 4) (by omega) h.1 h.2)
  exact lits_fail (by omega) h1 fun hp he => h2 ⟨hp, he⟩
theorem down_all {text : Array Nat} {lim : Nat} (hS : ∀ k, 16 ≤ k → k < lim → text.getD k 0 ≠ 83) : ∀ (d : Nat) (seen : PySem.Sre.Seen), ∃ seen', Goes (8 * d) (stA text lim (11 + d) seen) (stA text lim 11 seen')
  | 0, seen => ⟨seen, Goes.refl _⟩
  | d + 1, seen => by
    obtain ⟨s1, g1⟩ := down_one (lim := lim) (q := 11 + d) (seen := seen) (by omega) hS
    obtain ⟨s2, g2⟩ := down_all hS d s1
    exact ⟨s2, (g1.trans g2).mono (by omega)⟩
theorem run_any {text : Array Nat} : ∀ (n p found : Nat) (seen : PySem.Sre.Seen), (∀ k, p ≤ k → k < p + n → text.getD k 0 ≠ 10) → Sre.run codeA text 9 n p found seen = .ok (found + n, seen)
  | 0, _, _, _, _ => rfl
  | n + 1, p, found, seen, h => by
    unfold Sre.run
    have ha : accepts codeA 9 (text.getD p 0) seen = .ok (true, seen) := by
      have : (text.getD p 0 != 10) = true := by simpa using h p (Nat.le_refl _) (by omega)
      show Except.ok (text.getD p 0 != 10, seen) = _
      rw [this]
    rw [ha]
    show Sre.run codeA text 9 n (p + 1) (found + 1) seen = _
    rw [run_any n (p + 1) (found + 1) seen fun k h1 h2 => h k (by omega) (by omega)]
    congr 2; omega
theorem run_not {text : Array Nat} : ∀ (n f p found : Nat) (seen : PySem.Sre.Seen), n < f → (∀ k, p ≤ k → k < p + n → text.getD k 0 ≠ 41) → text.getD (p + n) 0 = 41 → Sre.run codeA text 31 f p found seen = .ok (found + n, seen)
  | 0, f + 1, p, found, seen, _, _, he => by
    unfold Sre.run
    have ha : accepts codeA 31 (text.getD p 0) seen = .ok (false, seen) := by
      show Except.ok (text.getD p 0 != 41, seen) = _
      rw [Nat.add_zero] at he
      rw [he]; rfl
    rw [ha]
    rfl
  | n + 1, f + 1, p, found, seen, hf, h, he => by
    unfold Sre.run
    have ha : accepts codeA 31 (text.getD p 0) seen = .ok (true, seen) := by
      have : (text.getD p 0 != 41) = true := by simpa using h p (Nat.le_refl _) (by omega)
      show Except.ok (text.getD p 0 != 41, seen) = _
      rw [this]
    rw [ha]
    show Sre.run codeA text 31 f (p + 1) (found + 1) seen = _
    rw [run_not n f (p + 1) (found + 1) seen (by omega) (fun k h1 h2 => h k (by omega) (by omega)) (by rw [← he]; congr 1; omega)]
    congr 2; omega
noncomputable def st0 (text : Array Nat) (lim : Nat) : M :=
  { code := codeA, text := text, lim := lim, start := 0, pc := 5, pos := 0, handed := 0, marks := #[none, none], seen := ({} : PySem.Sre.Seen).add 14 }
theorem forMatch_eq {text : Array Nat} {lim : Nat} (h : 8 ≤ lim) : Sre.forMatch codeA text 1 0 lim false false = st0 text lim := by
  have e : (header codeA) = (8, 5) := by rfl
  unfold Sre.forMatch
  simp only [e]
  rw [if_neg (by simp; omega)]
  rfl
theorem start_any {text : Array Nat} {lim : Nat} (hl : lim ≤ 4294967295) (h10 : ∀ k, k < lim → text.getD k 0 ≠ 10) : ∃ seen', (st0 text lim).step = stA text lim lim seen' := by
  rw [step_exec rfl rfl (show 5 < 39 by decide)]
  unfold M.exec
  have hw : ops[(st0 text lim).word 0]? = some .REPEAT_ONE := rfl
  rw [hw]
  dsimp only
  have e1 : ∀ s : PySem.Sre.Seen, Sre.run codeA text 9 (min 4294967295 (((lim : Int) - (0 : Nat)).toNat)) 0 0 s = .ok (lim, s) := fun s => by
    have : min 4294967295 (((lim : Int) - (0 : Nat)).toNat) = lim := by omega
    rw [this, run_any lim 0 0 s fun k _ h2 => h10 k (by omega)]
    rw [Nat.zero_add]
  refine Exists.intro ((({} : PySem.Sre.Seen).add 14).add 24 |>.add 2) ?_
  show (if ((0 : Nat) : Int) > (lim : Int) - (0 : Nat) then _ else match Sre.run codeA text 9 (min 4294967295 (((lim : Int) - (0 : Nat)).toNat)) 0 0 _ with | .error why => _ | .ok (n, seen) => _) = _
  rw [if_neg (by omega), e1]
  simp [M.afterRun, M.attempt, M.frame, M.word, M.keep, st0, stA, codeA]
theorem end_mark {text : Array Nat} {lim : Nat} {seen : PySem.Sre.Seen} : ({ stA text lim 11 seen with pc := 25, pos := 18 } : M).step = { stA text lim 11 seen with pc := 27, pos := 18, seen := seen.add 17, marks := #[some 18, none], lastmark := 0 } := by
  rw [step_exec rfl rfl (show 25 < 39 by decide)]
  rfl
noncomputable def stB (text : Array Nat) (lim n : Nat) (seen : PySem.Sre.Seen) : M :=
  { stA text lim 11 seen with pc := 34, pos := 18 + n, handed := 18 + n, marks := #[some 18, none], lastmark := 0, frames := { wait := .giveBack, pc := 27, pos := 18 + n, outermost := true, count := (n : Int), kept := { lastmark := 0 } } :: (stA text lim 11 seen).frames, weight := 2 }
theorem end_run {text : Array Nat} {lim n : Nat} {seen : PySem.Sre.Seen} (hl : lim ≤ 4294967295) (hn : 18 + n < lim) (h41 : ∀ k, 18 ≤ k → k < 18 + n → text.getD k 0 ≠ 41) (he : text.getD (18 + n) 0 = 41) :
    ∃ seen', ({ stA text lim 11 seen with pc := 27, pos := 18, seen := seen.add 17, marks := #[some 18, none], lastmark := 0 } : M).step = stB text lim n seen' := by
  rw [step_exec rfl rfl (show 27 < 39 by decide)]
  unfold M.exec
  have hw : ops[({ stA text lim 11 seen with pc := 27, pos := 18, seen := seen.add 17, marks := #[some 18, none], lastmark := 0 } : M).word 0]? = some .REPEAT_ONE := rfl
  rw [hw]
  dsimp only
  have e1 : ∀ s : PySem.Sre.Seen, Sre.run codeA text 31 (min 4294967295 (((lim : Int) - (18 : Nat)).toNat)) 18 0 s = .ok (n, s) := fun s => by
    rw [run_not n _ 18 0 s (by omega) h41 he]
    rw [Nat.zero_add]
  refine Exists.intro (((seen.add 17).add 24).add 20) ?_
  show (if ((0 : Nat) : Int) > (lim : Int) - (18 : Nat) then _ else match Sre.run codeA text 31 (min 4294967295 (((lim : Int) - (18 : Nat)).toNat)) 18 0 _ with | .error why => _ | .ok (n, seen) => _) = _
  rw [if_neg (by omega), e1]
  simp [M.afterRun, M.attempt, M.frame, M.word, M.keep, stB, stA, codeA]
structure Found (n : Nat) (m : M) : Prop where
  out : m.outcome = some .matched
  marks : m.marks = #[some 18, some (18 + n)]
  last : m.lastmark = 1
  idx : m.lastindex = 1
  start : m.start = 0
  handed : m.handed = 18 + n + 1
theorem end_last {text : Array Nat} {lim n : Nat} {seen : PySem.Sre.Seen} (hn : 18 + n < lim) (he : text.getD (18 + n) 0 = 41) : ∃ mf, Goes 6 (stB text lim n seen) mf ∧ Found n mf := by
  have s1 : (stB text lim n seen).step = { stB text lim n seen with pc := 36, marks := #[some 18, some (18 + n)], lastmark := 1, lastindex := 1, seen := seen.add 17 } := by
    rw [step_exec rfl rfl (show 34 < 39 by decide)]
    have hw : ops[(stB text lim n seen).word 0]? = some .MARK := rfl
    unfold M.exec
    rw [hw]
    dsimp only
    simp [M.mark, M.word, stB, stA, codeA]
    rfl
  have s2 := lit_yes (m := { stB text lim n seen with pc := 36, marks := #[some 18, some (18 + n)], lastmark := 1, lastindex := 1, seen := seen.add 17 }) rfl rfl (show 36 < 39 by decide) rfl hn he
  refine ⟨_, (Goes.one s1).trans ((Goes.one s2).trans ((Goes.one rfl).trans ((Goes.one rfl).trans ((Goes.one rfl).trans (Goes.one rfl))))), ?_⟩
  constructor <;> rfl
theorem match_all {text : Array Nat} {lim n : Nat} (hl : lim ≤ 16777216) (h10 : ∀ k, k < lim → text.getD k 0 ≠ 10) (hS : ∀ k, 16 ≤ k → k < lim → text.getD k 0 ≠ 83)
    (hF : ∀ i, i < 7 → text.getD (11 + i) 0 = codeA.getD (12 + 2 * i) 0) (hn : 18 + n < lim) (h41 : ∀ k, 18 ≤ k → k < 18 + n → text.getD k 0 ≠ 41) (he : text.getD (18 + n) 0 = 41) :
    ∃ mf, Goes (8 * lim + 30) (Sre.forMatch codeA text 1 0 lim false false) mf ∧ Found n mf := by
  rw [forMatch_eq (by omega)]
  obtain ⟨s1, g1⟩ := start_any (text := text) (lim := lim) (by omega) h10
  obtain ⟨d, hd⟩ : ∃ d, lim = 11 + d := ⟨lim - 11, by omega⟩
  have g2 := down_all hS d s1
  rw [← hd] at g2
  obtain ⟨s2, g2⟩ := g2
  obtain ⟨s3, g3⟩ := lits_run (text := text) (lim := lim) (p := 11) (seen := s2) 7 (by omega) (fun i hi => ⟨by omega, hF i hi⟩)
  obtain ⟨s4, g4⟩ := end_run (text := text) (lim := lim) (n := n) (seen := s3) (by omega) hn h41 he
  obtain ⟨mf, g5, hf⟩ := end_last (text := text) (lim := lim) (n := n) (seen := s4) hn he
  refine ⟨mf, ?_, hf⟩
  have g3' : Goes 7 (stA text lim 11 s2) { stA text lim 11 s3 with pc := 25, pos := 18 } := g3
  exact ((Goes.one g1).trans (g2.trans (g3'.trans ((Goes.one end_mark).trans ((Goes.one g4).trans g5))))).mono (by omega)
end Mine
end

/- Rm -/
noncomputable section
open PySem PySem.W PySem.Spec PySem.Calls PyProof.Rows
set_option maxHeartbeats 1000000

namespace Mine
open Builtin Builtin.Re
theorem plain_pat : PlainAttrs "re.Pattern" :=
  ⟨⟨"object.__getattribute__", by rw [typeLookup_type, builtinLookup_eq_fast]; kernel_rfl, by decide +kernel⟩, by rw [typeLookup_type, builtinLookup_eq_fast]; kernel_rfl⟩
theorem slot_pat_match : Slot "re.Pattern" "match" "re.Pattern.match" :=
  .of (owner := "re.Pattern") (n := "match") (by rw [typeLookup_type, builtinLookup_eq_fast]; kernel_rfl) (by decide +kernel) (by decide +kernel) (by decide +kernel)
    (by first | exact .inl (by decide +kernel) | exact .inr (by decide +kernel)) (by rw [isSubtype_type]; kernel_rfl)
theorem type_pat_match : typeOf (.builtin "re.Pattern.match") = pure (.type "method_descriptor") := by show builtinType _ = _; rw [builtinType_eq_fast]; kernel_rfl
theorem entry_pat_match : entryFor table "re.Pattern.match" = some Builtin.«re.Pattern.match» := entryFor_of_tree (by kernel_rfl)
theorem args_pat_match (a b : Value) : argsOk "re.Pattern.match" ⟨[a, b], []⟩ := by unfold argsOk; kernel_rfl
theorem plain_mat : PlainAttrs "re.Match" :=
  ⟨⟨"object.__getattribute__", by rw [typeLookup_type, builtinLookup_eq_fast]; kernel_rfl, by decide +kernel⟩, by rw [typeLookup_type, builtinLookup_eq_fast]; kernel_rfl⟩
theorem slot_mat_group : Slot "re.Match" "group" "re.Match.group" :=
  .of (owner := "re.Match") (n := "group") (by rw [typeLookup_type, builtinLookup_eq_fast]; kernel_rfl) (by decide +kernel) (by decide +kernel) (by decide +kernel)
    (by first | exact .inl (by decide +kernel) | exact .inr (by decide +kernel)) (by rw [isSubtype_type]; kernel_rfl)
theorem type_mat_group : typeOf (.builtin "re.Match.group") = pure (.type "method_descriptor") := by show builtinType _ = _; rw [builtinType_eq_fast]; kernel_rfl
theorem entry_mat_group : entryFor table "re.Match.group" = some Builtin.«re.Match.group» := entryFor_of_tree (by kernel_rfl)
theorem args_mat_group (a b : Value) : argsOk "re.Match.group" ⟨[a, b], []⟩ := by unfold argsOk; kernel_rfl
section
variable {M : Model} {A : Around} {E : Value → Shared → Prop} {s : Shared}
theorem drive (mf : Sre.M) (hout : mf.outcome = some .matched) {Q : Sre.M → Shared → Prop} (h : Q mf s) : ∀ (f k : Nat), k ≤ f * 4 → k > 0 → ∀ m, iter k m = mf → wpAny M A (reDrive f m) Q E s
  | 0, k, hk, h0, m, e => by omega
  | f + 1, k, hk, h0, m, e => by
    unfold reDrive
    show wpAny M A (if (m.runFor reTurnSteps).outcome.isSome then pure (m.runFor reTurnSteps) else do rule "sre.turn"; reDrive f (m.runFor reTurnSteps)) Q E s
    have er : m.runFor reTurnSteps = iter 4 m := runFor_iter 4 m
    rw [er]
    have fix : ∀ j, iter j mf = mf := by
      intro j
      induction j with
      | zero => rfl
      | succ j ih => show iter j mf.step = mf; rw [step_done (by rw [hout]; rfl)]; exact ih
    have fixo : ∀ (x : Sre.M), x.outcome.isSome = true → ∀ j, iter j x = x := by
      intro x hx j
      induction j with
      | zero => rfl
      | succ j ih => show iter j x.step = x; rw [step_done hx]; exact ih
    by_cases hs : (iter 4 m).outcome.isSome = true
    · rw [if_pos hs]
      have : iter 4 m = mf := by
        rcases Nat.le_total k 4 with h4 | h4
        · have : iter 4 m = iter (4 - k) (iter k m) := by rw [← iter_add]; congr 1; omega
          rw [this, e]; exact fix _
        · have : iter k m = iter (k - 4) (iter 4 m) := by rw [← iter_add]; congr 1; omega
          rw [← e, this]; exact (fixo _ hs _).symm
      rw [this]
      exact wpAny_pure h
    · rw [if_neg hs]
      have hk4 : 4 < k := by
        rcases Nat.lt_or_ge 4 k with q | q
        · exact q
        · exfalso
          have : iter 4 m = iter (4 - k) (iter k m) := by rw [← iter_add]; congr 1; omega
          rw [this, e, fix, hout] at hs
          exact hs rfl
      refine wpAny_bind (wpAny_rule ?_)
      exact drive mf hout h f (k - 4) (by omega) (by omega) (iter 4 m) (by rw [← iter_add, ← e]; congr 1; omega)
theorem rules {S : Sre.Seen} {Q : PUnit → Shared → Prop} (h : Q ⟨⟩ s) : ∀ (l : List Nat), wpAny M A (forIn l PUnit.unit fun i _ => (if S.has i then (do rule (Sre.names.getD i ""); pure (ForInStep.yield PUnit.unit)) else pure (ForInStep.yield PUnit.unit) : Sem (ForInStep PUnit))) Q E s
  | [] => wpAny_pure h
  | i :: l => by
    rw [List.forIn_cons]
    refine wpAny_bind ?_
    by_cases hi : S.has i = true
    · rw [if_pos hi]
      exact wpAny_bind (wpAny_rule (wpAny_pure (rules h l)))
    · rw [if_neg hi]
      exact wpAny_pure (rules h l)
end
noncomputable def codeVals : Array Value := #[Value.int 14 0, Value.int 4 0, Value.int 0 0, Value.int 8 0, Value.int 4294967295 0, Value.int 24 0, Value.int 5 0, Value.int 0 0, Value.int 4294967295 0, Value.int 2 0, Value.int 1 0, Value.int 16 0, Value.int 70 0, Value.int 16 0, Value.int 76 0, Value.int 16 0, Value.int 65 0, Value.int 16 0, Value.int 71 0, Value.int 16 0, Value.int 83 0, Value.int 16 0, Value.int 32 0, Value.int 16 0, Value.int 40 0, Value.int 17 0, Value.int 0 0, Value.int 24 0, Value.int 6 0, Value.int 0 0, Value.int 4294967295 0, Value.int 20 0, Value.int 41 0, Value.int 1 0, Value.int 17 0, Value.int 1 0, Value.int 16 0, Value.int 41 0, Value.int 1 0]
noncomputable def tupObj (n : Nat) : Obj := { cls := .type "tuple", data := .seq #[.int 0 0, .int ((18 + n + 1 : Nat) : Int) 0, .int 18 0, .int ((18 + n : Nat) : Int) 0] }
noncomputable def matObj (T : Array UInt8) (t : Tok) (P tup : Addr) : Obj := { cls := .type "re.Match", data := .fields #[.bytes T t, .ref P, .int 0 0, .int (T.size : Int) 0, .int 1 0, .ref tup] }
structure LineText (T : Array UInt8) (n : Nat) : Prop where
  size : T.size ≤ 16777216
  nl : ∀ k, k < T.size → (T.map (·.toNat)).getD k 0 ≠ 10
  noS : ∀ k, 16 ≤ k → k < T.size → (T.map (·.toNat)).getD k 0 ≠ 83
  flags : ∀ i, i < 7 → (T.map (·.toNat)).getD (11 + i) 0 = codeA.getD (12 + 2 * i) 0
  long : 18 + n < T.size
  inner : ∀ k, 18 ≤ k → k < 18 + n → (T.map (·.toNat)).getD k 0 ≠ 41
  close : (T.map (·.toNat)).getD (18 + n) 0 = 41
theorem meets_match (T : Array UInt8) (t : Tok) (n : Nat) (P gi cd : Addr) (src nm : Value) (t1 t2 t3 : Tok) (hT : LineText T n) :
    Meets (Builtin.«re.Pattern.match» ⟨[.ref P, .bytes T t], []⟩) (fun _ R s => s.heap.get? P = some { cls := .type "re.Pattern", data := .fields #[src, .int 0 t1, .int 1 t2, .ref gi, nm, .ref cd, .int 1 t3] } ∧
      s.heap.get? cd = some { cls := .type "tuple", data := .seq codeVals } ∧ R (.ok (.ret (.ref (s.heap.objs.size + 1)))) { s with heap := (s.heap.push (tupObj n)).push (matObj T t P s.heap.objs.size) }) := by
  refine .of_wp fun prog w A R s hS => ?_
  obtain ⟨hP, hC, h⟩ := hS
  show wpAny _ _ (reTarget "re.Pattern.match" "match" ⟨[.ref P, .bytes T t], []⟩ >>= fun t => reAnswer t (Sre.forMatch t.code t.text t.groups t.pos t.lim false false)) _ _ s
  refine wpAny_bind ?_
  unfold reTarget
  dsimp only
  refine wpAny_bind (wpAny_of_eq (a := [some (.bytes T t), none, none]) (by kernel_rfl) ?_)
  dsimp only
  refine wpAny_bind (wpAny_pure ?_)
  refine wpAny_bind (wpAny_pure ?_)
  refine wpAny_bind (wpAny_fieldsOf hP rfl ?_)
  refine wpAny_bind ?_
  unfold reTextOf
  refine wpAny_bind (wpAny_of_eq (a := none) rfl ?_)
  dsimp only
  refine wpAny_bind (wpAny_of_eq KBy.quiet_eq ?_)
  dsimp only
  refine wpAny_pure ?_
  dsimp only
  refine wpAny_ite (KBy.ite_no (show ¬ (false = true) from Bool.false_ne_true) ?_)
  refine wpAny_ite (KBy.ite_no (show ¬ (false = true) from Bool.false_ne_true) ?_)
  refine wpAny_bind ?_
  unfold reNoCollectionInside
  refine wpAny_ite (KBc.ite_yes (show true = true from rfl) ?_)
  refine wpAny_bind (wpAny_of_eq KBy.isInstance_eq ?_)
  refine wpAny_ite (KBy.ite_no (show ¬ (false = true) from Bool.false_ne_true) ?_)
  refine wpAny_pure ?_
  refine wpAny_bind ?_
  show wpAny _ _ (reRawItems (.ref cd)) _ _ _
  unfold reRawItems
  refine wpAny_bind ?_
  unfold seqItems?
  refine wpAny_bind (wpAny_load hC ?_)
  dsimp only
  refine wpAny_pure ?_
  refine wpAny_pure ?_
  refine wpAny_pure ?_
  have ec : ((some codeVals).getD #[] |>.map reRawOf).map (·.toNat) = codeA := by decide +kernel
  have el : min ((2 ^ 63 - 1 : Int).toNat) (T.map (·.toNat)).size = T.size := by
    rw [Array.size_map]; have := hT.size; omega
  have ep : min (Int.toNat 0) (T.map (·.toNat)).size = 0 := Nat.zero_min _
  have eg : reRawNat ((#[src, Value.int 0 t1, Value.int 1 t2, Value.ref gi, nm, Value.ref cd, Value.int 1 t3] : Array Value).getD 2 Value.none) = 1 := rfl
  dsimp only
  rw [ec, el, ep, eg]
  obtain ⟨mf, ⟨k, hk, hg⟩, hf⟩ := match_all (text := T.map (·.toNat)) (lim := T.size) (n := n) hT.size hT.nl hT.noS hT.flags hT.long hT.inner hT.close
  unfold reAnswer
  refine wpAny_bind ?_
  unfold reRunToEnd
  have hk0 : k > 0 := by
    rcases Nat.eq_zero_or_pos k with q | q
    · exfalso
      subst q
      have : (Sre.forMatch codeA (T.map (·.toNat)) 1 0 T.size false false).outcome = some .matched := by
        have e : Sre.forMatch codeA (T.map (·.toNat)) 1 0 T.size false false = mf := hg
        rw [e]; exact hf.out
      rw [forMatch_eq (by have := hT.long; omega)] at this
      exact nomatch this
    · exact q
  refine wpAny_bind (drive mf hf.out ?_ (2 ^ 64) k (by have := hT.size; omega) hk0 _ hg)
  refine wpAny_bind (rules ?_ _)
  rw [hf.out]
  dsimp only
  refine wpAny_pure ?_
  dsimp only
  refine wpAny_bind ?_
  unfold reNewMatch
  rw [hf.last, hf.marks, hf.idx, hf.start, hf.handed]
  dsimp only
  refine wpAny_ite (KBy.ite_no (by simp [List.range, List.range.loop]) ?_)
  refine wpAny_bind (wpAny_newTuple ?_ (show 4 ≤ sizeLine by decide))
  unfold newFields
  refine wpAny_newObj_type ?_ (show 6 ≤ sizeLine + 2 by decide)
  refine wpAny_pure ⟨_, rfl, ?_⟩
  have fin : ∀ x, x = s.heap.objs.size + 1 → R (.ok (.ret (.ref x))) { s with heap := (s.heap.push (tupObj n)).push (matObj T t P s.heap.objs.size) } := fun x e => by rw [e]; exact h
  exact fin _ (Heap.size_push ..)
end Mine
end

/- Rg -/
noncomputable section
open PySem PySem.W PySem.Spec PySem.Calls PyProof.Rows
set_option maxHeartbeats 1000000

namespace Mine
open Builtin Builtin.Re
theorem no_index_str : typeLookup (.type "str") "__index__" = pure none := by rw [typeLookup_type, builtinLookup_eq_fast]; kernel_rfl
theorem special_str {x : PySem.Str} {t : Tok} {name : PySem.Str} {r : Option Value} (h : typeLookup (.type "str") name = pure r) : specialOf (.str x t) name = pure r := by
  have e : specialOf (.str x t) name = typeLookup (.type "str") name := rfl
  rw [e, h]
theorem ext_eq (T : Array UInt8) (a b : Nat) : ((T.map (·.toNat)).extract a b).map (·.toUInt8) = T.extract a b := by
  apply Array.ext
  · simp
  · intro i h1 h2
    simp
section
variable {prog : Program} {w : World} {A : Around} {E : Value → Shared → Prop} {s : Shared}
theorem call_group {T : Array UInt8} {t tk ti : Tok} {n : Nat} {P gi mo tup : Addr} {src nm cd : Value} {t1 t2 t3 : Tok} {f : PySem.Str → Option Value} {Q : Value → Shared → Prop}
    (hMo : s.heap.get? mo = some (matObj T t P tup)) (hTup : s.heap.get? tup = some (tupObj n)) (hP : s.heap.get? P = some { cls := .type "re.Pattern", data := .fields #[src, .int 0 t1, .int 1 t2, .ref gi, nm, cd, .int 1 t3] })
    (hm : s.heap.MapOf (strKind prog w) gi f) (hf : f (PySem.Str.ofString "flags") = some (.int 1 ti)) (hsz : T.size ≤ 16777216)
    (h : ∀ t' k, Q (.bytes (T.extract 18 (18 + n)) t') { s with toks := k }) : wpAny (model prog w) A (call (.builtin "re.Match.group") [.ref mo, .str (PySem.Str.ofString "flags") tk]) Q E s := by
  have hT : s.TypeIs (.ref mo) "re.Match" := ⟨_, hMo, rfl⟩
  refine wpAny_call (codeAny_call_builtin slot_mat_group.plain entry_mat_group (slot_mat_group.check _ _ _ _ _ _ _ _ hT (args_mat_group _ _) ?_))
  refine wpAny_mono (Q := fun fin s' => ∃ v, fin = .done (.ret v) ∧ Q v s') (E' := fun e s' => E e s') ?_ (fun fin s' h' => by obtain ⟨v, rfl, hv⟩ := h'; exact hv) (fun _ _ x => x)
  unfold Builtin.«re.Match.group»
  refine wpAny_bind (wpAny_of_eq (a := ()) rfl ?_)
  dsimp only
  refine wpAny_bind ?_
  unfold reFound
  refine wpAny_bind (wpAny_fieldsOf hMo rfl ?_)
  refine wpAny_bind ?_
  show wpAny _ _ (reRawItems (.ref tup)) _ _ _
  unfold reRawItems
  refine wpAny_bind ?_
  unfold seqItems?
  refine wpAny_bind (wpAny_load hTup ?_)
  dsimp only [tupObj]
  refine wpAny_pure ?_
  refine wpAny_pure ?_
  refine wpAny_pure ?_
  have es : Array.map reRawOf ((some #[Value.int 0 0, Value.int ((18 + n + 1 : Nat) : Int) 0, Value.int 18 0, Value.int ((18 + n : Nat) : Int) 0]).getD #[]) = #[0, ((18 + n + 1 : Nat) : Int), 18, ((18 + n : Nat) : Int)] := by simp [reRawOf]
  rw [es]
  refine wpAny_bind ?_
  unfold reGroupNumber
  refine wpAny_bind (wpAny_of_eq (a := none) rfl ?_)
  refine wpAny_ite (KBy.ite_no (show ¬ (false = true) from Bool.false_ne_true) ?_)
  refine wpAny_bind (wpAny_of_eq (special_str no_index_str) ?_)
  refine wpAny_ite (KBy.ite_no (show ¬ (false = true) from Bool.false_ne_true) ?_)
  show wpAny _ _ (fieldsOf (.ref P) >>= _) _ _ _
  refine wpAny_bind (wpAny_fieldsOf hP rfl ?_)
  show wpAny _ _ (dictGet gi _ >>= _) _ _ _
  refine wpAny_bind (wpAny_dictGet_of (strKind_is prog w _ _) hm ?_)
  rw [hf]
  dsimp only
  refine wpAny_bind (wpAny_of_eq (a := some 1) rfl (wpAny_bind (wpAny_pure ?_)))
  refine wpAny_ite (KBy.ite_no (show ¬ (false = true) from Bool.false_ne_true) ?_)
  refine wpAny_pure ?_
  refine wpAny_bind ?_
  unfold reGroupText
  show wpAny _ _ (if decide ((18 : Int) < 0) || decide (((18 + n : Nat) : Int) < 0) then _ else _) _ _ _
  refine wpAny_ite (KBy.ite_no (by simp; omega) ?_)
  refine wpAny_bind ?_
  show wpAny _ _ (reTextOf (.bytes T t)) _ _ _
  unfold reTextOf
  refine wpAny_bind (wpAny_of_eq (a := none) rfl ?_)
  dsimp only
  refine wpAny_bind (wpAny_of_eq KBy.quiet_eq ?_)
  dsimp only
  refine wpAny_pure ?_
  show wpAny _ _ (mkBytes (((T.map (·.toNat)).extract 18 (18 + n)).map (·.toUInt8))) _ _ _
  rw [ext_eq]
  refine wpAny_mkBytes ?_ (by rw [sizeLine_eq]; simp; omega)
  exact wpAny_pure ⟨_, rfl, h _ _⟩
end
end Mine
end

/- Rs -/
noncomputable section
open PySem PySem.W PySem.Spec PySem.Calls PyProof.Rows
set_option maxHeartbeats 1000000

namespace Mine
open Builtin
noncomputable def noSp (w : List UInt8) : Prop := ∀ c ∈ w, Bytes.isSpace c = false
theorem dropW {w t : List UInt8} (hw : noSp w) (hne : w ≠ []) : (w ++ t).dropWhile Bytes.isSpace = w ++ t := by
  cases w with
  | nil => exact absurd rfl hne
  | cons c w => show List.dropWhile _ (c :: (w ++ t)) = _; rw [List.dropWhile_cons, hw c (.head _)]; rfl
theorem takeW : ∀ {w t : List UInt8}, noSp w → (t = [] ∨ ∃ r, t = 32 :: r) → (w ++ t).takeWhile (fun c => !Bytes.isSpace c) = w
  | [], t, _, ht => by
    rcases ht with rfl | ⟨r, rfl⟩
    · rfl
    · rfl
  | c :: w, t, hw, ht => by
    show List.takeWhile _ (c :: (w ++ t)) = _
    rw [List.takeWhile_cons, hw c (.head _)]
    show c :: List.takeWhile _ (w ++ t) = _
    rw [takeW (fun d hd => hw d (.tail _ hd)) ht]
theorem dropN : ∀ {w t : List UInt8}, noSp w → (t = [] ∨ ∃ r, t = 32 :: r) → (w ++ t).dropWhile (fun c => !Bytes.isSpace c) = t
  | [], t, _, ht => by
    rcases ht with rfl | ⟨r, rfl⟩
    · rfl
    · rfl
  | c :: w, t, hw, ht => by
    show List.dropWhile _ (c :: (w ++ t)) = _
    rw [List.dropWhile_cons, hw c (.head _)]
    show List.dropWhile _ (w ++ t) = _
    rw [dropN (fun d hd => hw d (.tail _ hd)) ht]
theorem words_nil (f l : Nat) : Bytes.words f l [] = [] := by cases f <;> rfl
theorem words_sp (f l : Nat) (t : List UInt8) : Bytes.words (f + 1) l (32 :: t) = Bytes.words (f + 1) l t := by
  unfold Bytes.words
  rfl
theorem words_w (f l : Nat) {w t : List UInt8} (hw : noSp w) (hne : w ≠ []) (ht : t = [] ∨ ∃ r, t = 32 :: r) : Bytes.words (f + 1) (l + 1) (w ++ t) = w :: Bytes.words f l t := by
  conv => lhs; unfold Bytes.words
  rw [dropW hw hne]
  have e : ∃ c r, w ++ t = c :: r := by
    cases w with
    | nil => exact absurd rfl hne
    | cons c w => exact ⟨c, w ++ t, rfl⟩
  obtain ⟨c, r, e⟩ := e
  have h1 := takeW hw ht
  have h2 := dropN hw ht
  rw [e] at h1 h2 ⊢
  show (if (l + 1 == 0) = true then _ else _) = _
  rw [if_neg (by simp)]
  rw [h1, h2]
  rfl
theorem words3 (f l : Nat) {x y z : List UInt8} (hx : noSp x) (hy : noSp y) (hz : noSp z) (nx : x ≠ []) (ny : y ≠ []) (nz : z ≠ []) :
    Bytes.words (f + 4) (l + 4) (x ++ [32] ++ y ++ [32] ++ z) = [x, y, z] := by
  have e : x ++ [32] ++ y ++ [32] ++ z = x ++ (32 :: (y ++ (32 :: (z ++ [])))) := by simp
  rw [e, words_w (f + 3) (l + 3) hx nx (.inr ⟨_, rfl⟩), words_sp, words_w (f + 2) (l + 2) hy ny (.inr ⟨_, rfl⟩), words_sp, words_w (f + 1) (l + 1) hz nz (.inl rfl), words_nil]
theorem words2 (f l : Nat) {x z : List UInt8} (hx : noSp x) (hz : noSp z) (nx : x ≠ []) (nz : z ≠ []) :
    Bytes.words (f + 4) (l + 4) (x ++ [32] ++ [] ++ [32] ++ z) = [x, z] := by
  have e : x ++ [32] ++ [] ++ [32] ++ z = x ++ (32 :: (32 :: (z ++ []))) := by simp
  rw [e, words_w (f + 3) (l + 3) hx nx (.inr ⟨_, rfl⟩), words_sp, words_sp, words_w (f + 2) (l + 2) hz nz (.inl rfl), words_nil]
section
variable {prog : Program} {w : World} {A : Around} {E : Value → Shared → Prop} {s : Shared} {h₀ : Heap} {L : Addr} {m : PySem.Str → Option Value} {news : List (Addr × Obj)} {t : Tok} {Q : Value → Shared → Prop}
theorem split_core {X : Array UInt8} {ws : List (List UInt8)} (hany : X.any Bytes.isSpace = true) (hw : Bytes.words (X.size + 1) (X.size + 1) X.toList = ws)
    (h : wpAny (model prog w) A.in1 (ws.mapM (fun x => mkBytes x.toArray) >>= fun vs => newList vs) Q E s) : wpAny (model prog w) A (call (.builtin "bytes.split") [.bytes X t]) Q E s := by
  refine wpAny_call (codeAny_call_builtin slot_bytes_split.plain entry_bytes_split (slot_bytes_split.check _ _ _ _ _ _ _ _ (typeIs_bytes _ _ _) (args_bytes_split _) ?_))
  refine wpAny_mono (Q := fun fin s' => ∃ v, fin = .done (.ret v) ∧ Q v s') (E' := fun e s' => E e s') ?_ (fun fin s' h' => by obtain ⟨v, rfl, hv⟩ := h'; exact hv) (fun _ _ x => x)
  show wpAny _ _ (Bytes.splitM .bytes "split" false _) _ _ _
  unfold Bytes.splitM
  dsimp only
  refine wpAny_bind (wpAny_of_eq (a := [none, none]) (by kernel_rfl) ?_)
  refine wpAny_bind (wpAny_of_eq (a := (-1 : Int)) rfl ?_)
  refine wpAny_bind (wpAny_of_eq (a := X) rfl ?_)
  refine wpAny_bind (wpAny_rule ?_)
  refine wpAny_ite (KBy.ite_no (by rw [hany]; simp) ?_)
  show wpAny _ _ (List.mapM (fun x => mkBytes x.toArray) (Bytes.words (X.size + 1) (X.size + 1) X.toList) >>= fun vs => newList vs >>= ret) _ _ _
  rw [hw]
  have e : (List.mapM (fun (x : List UInt8) => mkBytes x.toArray) ws >>= fun vs => newList vs >>= ret) = ((List.mapM (fun (x : List UInt8) => mkBytes x.toArray) ws >>= fun vs => newList vs) >>= ret) := by
    rw [bind_assoc]
  rw [e]
  refine wpAny_bind (wpAny_mono h (fun v s' hq => wpAny_pure ⟨_, rfl, hq⟩) fun _ _ x => x)
theorem any_sp (x y : Array UInt8) : (x ++ #[32] ++ y).any Bytes.isSpace = true := by
  simp [Bytes.isSpace]
theorem split3 {x y z : List UInt8} (F : Fr h₀ L s.heap m) (N : News h₀ L s.heap news) (hx : noSp x) (hy : noSp y) (hz : noSp z) (nx : x ≠ []) (ny : y ≠ []) (nz : z ≠ []) (sx : x.length + y.length + z.length ≤ 16777000)
    (h : ∀ l ta tb tc h' tk', Fr h₀ L h' m → News h₀ L h' ((l, PySem.W.listOf #[.bytes x.toArray ta, .bytes y.toArray tb, .bytes z.toArray tc] 0) :: news) → (∀ p ∈ news, p.1 < l) → Q (.ref l) { s with heap := h', toks := tk' }) :
    wpAny (model prog w) A (call (.builtin "bytes.split") [.bytes (x.toArray ++ #[32] ++ y.toArray ++ #[32] ++ z.toArray) t]) Q E s := by
  have hl : 1 ≤ x.length := by cases x with | nil => exact absurd rfl nx | cons => simp
  have hl3 : 1 ≤ z.length := by cases z with | nil => exact absurd rfl nz | cons => simp
  refine split_core (any_sp _ _) (ws := [x, y, z]) ?_ ?_
  · have es : (x.toArray ++ #[32] ++ y.toArray ++ #[32] ++ z.toArray).toList = x ++ [32] ++ y ++ [32] ++ z := by simp
    have ez : (x.toArray ++ #[32] ++ y.toArray ++ #[32] ++ z.toArray).size + 1 = (x.length + y.length + z.length - 1) + 4 := by simp; omega
    rw [es, ez]
    exact words3 _ _ hx hy hz nx ny nz
  · refine wpAny_bind ?_
    simp only [List.mapM_cons, List.mapM_nil]
    refine wpAny_bind (wpAny_mkBytes ?_ (by rw [sizeLine_eq]; simp; omega))
    refine wpAny_bind (wpAny_bind (wpAny_mkBytes ?_ (by rw [sizeLine_eq]; simp; omega)))
    refine wpAny_bind (wpAny_bind (wpAny_mkBytes ?_ (by rw [sizeLine_eq]; simp; omega)))
    refine wpAny_bind (wpAny_pure (wpAny_pure (wpAny_pure (wpAny_pure ?_))))
    refine newList_N (s := ⟨s.heap, s.gens, s.drawn, _, s.os⟩) F N (fun h' F' N' => h _ _ _ _ h' _ F' N' (fun p hp => Heap.lt_size (N p hp).1)) (by show 3 ≤ sizeLine; decide)
theorem split2 {x z : List UInt8} (F : Fr h₀ L s.heap m) (N : News h₀ L s.heap news) (hx : noSp x) (hz : noSp z) (nx : x ≠ []) (nz : z ≠ []) (sx : x.length + z.length ≤ 16777000)
    (h : ∀ l ta tc h' tk', Fr h₀ L h' m → News h₀ L h' ((l, PySem.W.listOf #[.bytes x.toArray ta, .bytes z.toArray tc] 0) :: news) → (∀ p ∈ news, p.1 < l) → Q (.ref l) { s with heap := h', toks := tk' }) :
    wpAny (model prog w) A (call (.builtin "bytes.split") [.bytes (x.toArray ++ #[32] ++ #[] ++ #[32] ++ z.toArray) t]) Q E s := by
  have hl : 1 ≤ x.length := by cases x with | nil => exact absurd rfl nx | cons => simp
  have hl3 : 1 ≤ z.length := by cases z with | nil => exact absurd rfl nz | cons => simp
  refine split_core (any_sp _ _) (ws := [x, z]) ?_ ?_
  · have es : (x.toArray ++ #[32] ++ #[] ++ #[32] ++ z.toArray).toList = x ++ [32] ++ [] ++ [32] ++ z := by simp
    have ez : (x.toArray ++ #[32] ++ #[] ++ #[32] ++ z.toArray).size + 1 = (x.length + z.length - 1) + 4 := by simp; omega
    rw [es, ez]
    exact words2 _ _ hx hz nx nz
  · refine wpAny_bind ?_
    simp only [List.mapM_cons, List.mapM_nil]
    refine wpAny_bind (wpAny_mkBytes ?_ (by rw [sizeLine_eq]; simp; omega))
    refine wpAny_bind (wpAny_bind (wpAny_mkBytes ?_ (by rw [sizeLine_eq]; simp; omega)))
    refine wpAny_bind (wpAny_pure (wpAny_pure (wpAny_pure ?_)))
    refine newList_N (s := ⟨s.heap, s.gens, s.drawn, _, s.os⟩) F N (fun h' F' N' => h _ _ _ h' _ F' N' (fun p hp => Heap.lt_size (N p hp).1)) (by show 2 ≤ sizeLine; decide)
theorem get_split {M : Model} {X : Array UInt8} {pl : Sem Bool} {Q : Value × List Value → Shared → Prop} (h : Q (.builtin "bytes.split", [.bytes X t]) s) : wpAny M A (getMethod (.bytes X t) (PySem.Str.ofString "split") pl) Q E s := by
  with_reducible exact KBd.method_of (.bytes X t) (typeIs_bytes _ _ _) slot_bytes_split type_bytes_split KBd.noRef h
end
end Mine
end

/- Pf -/
noncomputable section
open PySem PySem.W PySem.Spec PySem.Calls PyProof.Rows

namespace Mine
open Builtin Builtin.Re
section
variable {prog : Program} {w : World} {A : Around} {E : Value → Shared → Prop} {s : Shared} {h₀ : Heap} {L : Addr} {m : PySem.Str → Option Value} {news : List (Addr × Obj)}
theorem pat_at {h : Heap} (X : (head.heap_39 w.params).In h) : ∃ src nm, h.get? 36 = some { cls := .type "re.Pattern", data := .fields #[src, .int 0 331, .int 1 0, .ref 33, nm, .ref 35, .int 1 0] } := ⟨_, _, X 36 _ rfl⟩
theorem code_at {h : Heap} (X : (head.heap_39 w.params).In h) : h.get? 35 = some { cls := .type "tuple", data := .seq codeVals } := X 35 _ rfl
theorem gi_at {h : Heap} (X : (head.heap_39 w.params).In h) : ∃ f ti, h.MapOf (strKind prog w) 33 f ∧ f (PySem.Str.ofString "flags") = some (.int 1 ti) :=
  ⟨_, 328, mapOf_K X rfl ⟨⟨_, _, rfl, rfl⟩, trivial⟩, find_K (K := head.heap_39 w.params) (a := 33) (x := PySem.Str.ofString "flags") (r := some (.int 1 328)) rfl (by kernel_rfl)⟩
theorem get_match {M : Model} {pl : Sem Bool} {Q : Value × List Value → Shared → Prop} (F : Fr h₀ L s.heap m) (X : (head.heap_39 w.params).In h₀) (h : Q (.builtin "re.Pattern.match", [.ref 36]) s) : wpAny M A (getMethod (.ref 36) (PySem.Str.ofString "match") pl) Q E s := by
  obtain ⟨src, nm, hp⟩ := pat_at (X.keeps F.keep)
  exact getMethod_builtin (T := "re.Pattern") ⟨_, hp, rfl⟩ plain_pat slot_pat_match type_pat_match (fun a e => by cases e; exact ⟨_, hp, rfl⟩) h
theorem call_match {T : Array UInt8} {t : Tok} {n : Nat} {Q : Value → Shared → Prop} (F : Fr h₀ L s.heap m) (X : (head.heap_39 w.params).In h₀) (N : News h₀ L s.heap news) (hT : LineText T n)
    (h : ∀ mo tup h', Fr h₀ L h' m → News h₀ L h' ((mo, matObj T t 36 tup) :: (tup, tupObj n) :: news) → Q (.ref mo) { s with heap := h' }) :
    wpAny (model prog w) A (call (.builtin "re.Pattern.match") [.ref 36, .bytes T t]) Q E s := by
  have X' := X.keeps F.keep
  obtain ⟨src, nm, hp⟩ := pat_at X'
  refine call_meets slot_pat_match ⟨_, hp, rfl⟩ entry_pat_match (args_pat_match _ _) (meets_match T t n 36 33 35 src nm 331 0 0 hT) ⟨hp, code_at X', ?_⟩
  have N1 := N.push F (tupObj n)
  have F1 := F.push (tupObj n)
  have N2 := N1.push F1 (matObj T t 36 s.heap.objs.size)
  have e : (s.heap.push (tupObj n)).objs.size = s.heap.objs.size + 1 := Heap.size_push ..
  rw [e] at N2
  exact h _ _ _ (F1.push _) N2
theorem get_group {M : Model} {pl : Sem Bool} {T : Array UInt8} {t : Tok} {mo tup : Addr} {Q : Value × List Value → Shared → Prop} (N : News h₀ L s.heap news) (hm : (mo, matObj T t 36 tup) ∈ news) (h : Q (.builtin "re.Match.group", [.ref mo]) s) :
    wpAny M A (getMethod (.ref mo) (PySem.Str.ofString "group") pl) Q E s :=
  getMethod_builtin (T := "re.Match") ⟨_, N.get hm, rfl⟩ plain_mat slot_mat_group type_mat_group (fun a e => by cases e; exact ⟨_, N.get hm, rfl⟩) h
theorem call_group_K {T : Array UInt8} {t tk : Tok} {n : Nat} {mo tup : Addr} {Q : Value → Shared → Prop} (F : Fr h₀ L s.heap m) (X : (head.heap_39 w.params).In h₀) (N : News h₀ L s.heap news) (hm : (mo, matObj T t 36 tup) ∈ news) (ht : (tup, tupObj n) ∈ news) (hT : LineText T n)
    (h : ∀ t' k, Q (.bytes (T.extract 18 (18 + n)) t') { s with toks := k }) : wpAny (model prog w) A (call (.builtin "re.Match.group") [.ref mo, .str (PySem.Str.ofString "flags") tk]) Q E s := by
  have X' := X.keeps F.keep
  obtain ⟨src, nm, hp⟩ := pat_at X'
  obtain ⟨f, ti, h1, h2⟩ := gi_at (prog := prog) X'
  exact call_group (N.get hm) (N.get ht) hp h1 h2 hT.size h
theorem no_bool_mat : typeLookup (.type "re.Match") "__bool__" = pure none := by rw [typeLookup_type, builtinLookup_eq_fast]; kernel_rfl
theorem no_len_mat : typeLookup (.type "re.Match") "__len__" = pure none := by rw [typeLookup_type, builtinLookup_eq_fast]; kernel_rfl
theorem truthy_mat {M : Model} {T : Array UInt8} {t : Tok} {mo tup : Addr} {Q : Bool → Shared → Prop} (N : News h₀ L s.heap news) (hm : (mo, matObj T t 36 tup) ∈ news) (h : Q true s) : wpAny M A (truthy (.ref mo)) Q E s := by
  have hT : s.TypeIs (.ref mo) "re.Match" := ⟨_, N.get hm, rfl⟩
  unfold truthy
  dsimp only
  refine wpAny_bind ?_
  unfold callSpecial?
  refine wpAny_bind (wpAny_specialOf hT no_bool_mat ?_)
  refine wpAny_pure ?_
  dsimp only
  refine wpAny_bind (wpAny_specialOf hT no_len_mat ?_)
  exact wpAny_pure h
end
end Mine
end

/- Lt -/
noncomputable section
open PySem PySem.W PySem.Spec PySem.Calls PyProof.Rows

namespace Mine
theorem wordOf_let : ∀ (n : Nat) (c : UInt8), c ∈ wordOf n → 65 ≤ c.toNat ∧ c.toNat ≤ 80 := by
  intro n
  induction n using Nat.strongRecOn with
  | ind n ih =>
    intro c hc
    rw [wordOf] at hc
    split at hc
    · simp at hc
    · rw [List.mem_append] at hc
      rcases hc with hc | hc
      · exact ih (n / 16) (by omega) c hc
      · simp only [List.mem_singleton] at hc
        subst hc
        have : (65 + n % 16).toUInt8.toNat = 65 + n % 16 := by
          simp [Nat.toUInt8]
          omega
        omega
noncomputable def okX (X : List UInt8) : Prop := ∀ c ∈ X, c.toNat = 32 ∨ (65 ≤ c.toNat ∧ c.toNat ≤ 80)
noncomputable def preL : List UInt8 := [42, 32, 55, 32, 70, 69, 84, 67, 72, 32, 40, 70, 76, 65, 71, 83, 32, 40]
noncomputable def postL : List UInt8 := [41, 32, 85, 73, 68, 32, 49, 50, 41]
theorem getD_list (T : Array UInt8) (k : Nat) : (T.map (·.toNat)).getD k 0 = (T.toList.map (·.toNat)).getD k 0 := by
  rw [Array.getD_eq_getD_getElem?, List.getD_eq_getElem?_getD, ← Array.toList_map, Array.getElem?_toList]
theorem mem_of_drop {l : List Nat} {k j : Nat} (h : k < l.length) (hj : j ≤ k) : l.getD k 0 ∈ l.drop j := by
  rw [List.getD_eq_getElem?_getD, List.getElem?_eq_getElem h]
  show l[k] ∈ _
  refine List.mem_iff_getElem.mpr ⟨k - j, by rw [List.length_drop]; omega, ?_⟩
  rw [List.getElem_drop]
  congr 1; omega
theorem lineText {X : List UInt8} (hX : okX X) (hs : X.length ≤ 1000) : LineText (preL ++ X ++ postL).toArray X.length := by
  have len : ((preL ++ X ++ postL).map (·.toNat)).length = 18 + X.length + 9 := by simp [preL, postL]; omega
  have hXm : ∀ d ∈ X.map (·.toNat), d = 32 ∨ (65 ≤ d ∧ d ≤ 80) := by
    intro d hd
    obtain ⟨c, hc, rfl⟩ := List.mem_map.mp hd
    exact hX c hc
  have hdrop : ((preL ++ X ++ postL).map (·.toNat)).drop 16 = [32, 40] ++ (X.map (·.toNat) ++ postL.map (·.toNat)) := by
    rw [List.append_assoc, List.map_append, List.map_append]
    have : (preL.map (·.toNat)).length = 18 := rfl
    rw [List.drop_append_of_le_length (by rw [this]; decide)]
    rfl
  have hpost : ∀ d ∈ postL.map (·.toNat), d = 41 ∨ d = 32 ∨ d = 85 ∨ d = 73 ∨ d = 68 ∨ d = 49 ∨ d = 50 := by decide
  have hpre : ∀ d ∈ preL.map (·.toNat), d ≠ 10 := by decide
  have sz : (preL ++ X ++ postL).toArray.size = 18 + X.length + 9 := by simp [preL, postL]; omega
  refine ⟨by omega, ?_, ?_, ?_, by omega, ?_, ?_⟩
  · intro k hk
    rw [getD_list]
    have := mem_of_drop (l := (preL ++ X ++ postL).map (·.toNat)) (k := k) (j := 0) (by omega) (Nat.zero_le _)
    show ((preL ++ X ++ postL).map (·.toNat)).getD k 0 ≠ 10
    rw [List.drop_zero, List.map_append, List.map_append, List.mem_append, List.mem_append] at this
    rcases this with (h | h) | h
    · have := hpre _ h
      rwa [List.map_append, List.map_append]
    · have := hXm _ h
      rw [List.map_append, List.map_append]; omega
    · have := hpost _ h
      rw [List.map_append, List.map_append]; omega
  · intro k h16 hk
    rw [getD_list]
    have := mem_of_drop (l := (preL ++ X ++ postL).map (·.toNat)) (k := k) (j := 16) (by omega) h16
    show ((preL ++ X ++ postL).map (·.toNat)).getD k 0 ≠ 83
    rw [hdrop, List.mem_append, List.mem_append] at this
    rcases this with h | h | h
    · simp only [List.mem_cons, List.not_mem_nil, or_false] at h; omega
    · have := hXm _ h; omega
    · have := hpost _ h; omega
  · intro i hi
    rw [getD_list]
    show ((preL ++ X ++ postL).map (·.toNat)).getD (11 + i) 0 = _
    rw [List.append_assoc, List.map_append, List.getD_eq_getElem?_getD, List.getElem?_append_left (by show 11 + i < 18; omega)]
    have : i = 0 ∨ i = 1 ∨ i = 2 ∨ i = 3 ∨ i = 4 ∨ i = 5 ∨ i = 6 := by omega
    rcases this with h | h | h | h | h | h | h <;> subst h <;> rfl
  · intro k h1 h2
    rw [getD_list]
    show ((preL ++ X ++ postL).map (·.toNat)).getD k 0 ≠ 41
    rw [List.append_assoc, List.map_append, List.map_append, List.getD_eq_getElem?_getD, List.getElem?_append_right (by show 18 ≤ k; exact h1)]
    show ((X.map (·.toNat) ++ postL.map (·.toNat))[k - 18]?).getD 0 ≠ 41
    rw [List.getElem?_append_left (by rw [List.length_map]; omega), List.getElem?_eq_getElem (by rw [List.length_map]; omega)]
    have := hXm _ (List.getElem_mem (l := X.map (·.toNat)) (n := k - 18) (by rw [List.length_map]; omega))
    intro hc
    have hc' : (X.map (·.toNat))[k - 18]'(by rw [List.length_map]; omega) = 41 := hc
    omega
  · rw [getD_list]
    show ((preL ++ X ++ postL).map (·.toNat)).getD (18 + X.length) 0 = 41
    rw [List.append_assoc, List.map_append, List.map_append, List.getD_eq_getElem?_getD, List.getElem?_append_right (by show 18 ≤ _; omega)]
    show ((X.map (·.toNat) ++ postL.map (·.toNat))[18 + X.length - 18]?).getD 0 = 41
    rw [List.getElem?_append_right (by rw [List.length_map]; omega)]
    have : 18 + X.length - 18 - (X.map (·.toNat)).length = 0 := by rw [List.length_map]; omega
    rw [this]; rfl
noncomputable def inL (x : Int × Int × Int) : List UInt8 := wordOf x.1.natAbs ++ [32] ++ wordOf x.2.1.natAbs ++ [32] ++ wordOf x.2.2.natAbs
theorem lineOf_eq (x : Int × Int × Int) : lineOf x = (preL ++ inL x ++ postL).toArray := by
  unfold lineOf inL preL postL
  simp
theorem inL_ok (x : Int × Int × Int) : okX (inL x) := by
  intro c hc
  simp only [inL, List.mem_append, List.mem_singleton] at hc
  rcases hc with (((h | h) | h) | h) | h
  · exact .inr (wordOf_let _ _ h)
  · subst h; exact .inl rfl
  · exact .inr (wordOf_let _ _ h)
  · subst h; exact .inl rfl
  · exact .inr (wordOf_let _ _ h)
theorem extract_in (X : List UInt8) : (preL ++ X ++ postL).toArray.extract 18 (18 + X.length) = X.toArray := by
  apply Array.toList_inj.mp
  rw [Array.toList_extract]
  show List.extract (preL ++ X ++ postL) 18 (18 + X.length) = X
  rw [List.extract_eq_take_drop, List.append_assoc]
  show List.take _ (List.drop 18 (preL ++ (X ++ postL))) = X
  rw [List.drop_left' (by rfl), List.take_left' (by omega)]
end Mine
end

/- Pc -/
noncomputable section
open PySem PySem.W PySem.Spec PySem.Calls PyProof.Rows

namespace Mine
theorem noSp_word (n : Nat) : noSp (wordOf n) := by
  intro c hc
  have := wordOf_let n c hc
  unfold Builtin.Bytes.isSpace
  have h1 : (c == 32) = false := by
    rw [beq_eq_false_iff_ne]
    intro h; subst h; simp at this
  have h2 : ¬ (c ≤ 13) := by
    intro h
    have : c.toNat ≤ 13 := h
    omega
  rw [h1]
  simp [h2]
theorem word_ne {n : Nat} (h : n ≠ 0) : wordOf n ≠ [] := by
  rw [wordOf, dif_neg h]; simp
theorem inL_len {x : Int × Int × Int} (h1 : x.1.natAbs < 2 ^ 60) (h2 : x.2.1.natAbs < 2 ^ 60) (h3 : x.2.2.natAbs < 2 ^ 60) : (inL x).length ≤ 60 := by
  have e1 := wordOf_len 15 _ (show x.1.natAbs < 16 ^ 15 by omega)
  have e2 := wordOf_len 15 _ (show x.2.1.natAbs < 16 ^ 15 by omega)
  have e3 := wordOf_len 15 _ (show x.2.2.natAbs < 16 ^ 15 by omega)
  simp [inL]; omega
theorem lt_of {x : Int × Int × Int} (h1 : x.1.natAbs < 2 ^ 60) (h2 : x.2.1.natAbs < 2 ^ 60) (h3 : x.2.2.natAbs < 2 ^ 60) : LineText (lineOf x) (inL x).length := by
  rw [lineOf_eq]
  exact lineText (inL_ok x) (by have := inL_len h1 h2 h3; omega)
theorem ext_line (x : Int × Int × Int) : (lineOf x).extract 18 (18 + (inL x).length) = (wordOf x.1.natAbs).toArray ++ #[32] ++ (wordOf x.2.1.natAbs).toArray ++ #[32] ++ (wordOf x.2.2.natAbs).toArray := by
  rw [lineOf_eq, extract_in]
  simp [inL]
local macro_rules | `(tactic| walk_at $s:str) => `(tactic| k_extra $s)
theorem call_group_L {prog : Program} {w : World} {A : Around} {E : Value → Shared → Prop} {s : Shared} {h₀ : Heap} {L : Addr} {m : PySem.Str → Option Value} {news : List (Addr × Obj)} {x : Int × Int × Int} {t tk : Tok} {mo tup : Addr} {Q : Value → Shared → Prop} (F : Fr h₀ L s.heap m) (X : (head.heap_39 w.params).In h₀) (N : News h₀ L s.heap news)
    (hm : (mo, matObj (lineOf x) t 36 tup) ∈ news) (ht : (tup, tupObj (inL x).length) ∈ news) (hT : LineText (lineOf x) (inL x).length)
    (h : ∀ t' k, Q (.bytes ((wordOf x.1.natAbs).toArray ++ #[32] ++ (wordOf x.2.1.natAbs).toArray ++ #[32] ++ (wordOf x.2.2.natAbs).toArray) t') { s with toks := k }) : wpAny (model prog w) A (call (.builtin "re.Match.group") [.ref mo, .str (PySem.Str.ofString "flags") tk]) Q E s := by
  refine call_group_K F X N hm ht hT ?_
  rw [ext_line]
  exact h
theorem call_group_E {prog : Program} {w : World} {A : Around} {E : Value → Shared → Prop} {s : Shared} {h₀ : Heap} {L : Addr} {m : PySem.Str → Option Value} {news : List (Addr × Obj)} {x : Int × Int × Int} {t tk : Tok} {mo tup : Addr} {Q : Value → Shared → Prop} (F : Fr h₀ L s.heap m) (X : (head.heap_39 w.params).In h₀) (N : News h₀ L s.heap news)
    (hm : (mo, matObj (lineOf x) t 36 tup) ∈ news) (ht : (tup, tupObj (inL x).length) ∈ news) (hT : LineText (lineOf x) (inL x).length) (e0 : (wordOf x.2.1.natAbs).toArray = #[])
    (h : ∀ t' k, Q (.bytes ((wordOf x.1.natAbs).toArray ++ #[32] ++ #[] ++ #[32] ++ (wordOf x.2.2.natAbs).toArray) t') { s with toks := k }) : wpAny (model prog w) A (call (.builtin "re.Match.group") [.ref mo, .str (PySem.Str.ofString "flags") tk]) Q E s := by
  refine call_group_L F X N hm ht hT ?_
  rw [e0]
  exact h
theorem w_small {n : Nat} (h : n < 2 ^ 60) : (wordOf n).length ≤ 15 := wordOf_len 15 n (by omega)
theorem parse3_spec (w : World) (mean : ExcName → Option Value) (mg mb : PySem.Str → Option Value) (news : List (Addr × Obj)) (x : Int × Int × Int) (tb : Tok)
    (h1 : x.1.natAbs < 2 ^ 60) (h2 : x.2.1.natAbs < 2 ^ 60) (h3 : x.2.2.natAbs < 2 ^ 60) (n1 : x.1.natAbs ≠ 0) (n2 : x.2.1.natAbs ≠ 0) (n3 : x.2.2.natAbs ≠ 0) :
    Spec w mean mg mb 2 50 news [.bytes (lineOf x) tb] (fun v nx => ∃ u ta tc td, v = .ref u ∧ (∀ p ∈ news, p.1 < u) ∧ nx = (u, { cls := .type "tuple", data := .seq #[.bytes (wordOf x.1.natAbs).toArray ta, .bytes (wordOf x.2.1.natAbs).toArray tc, .bytes (wordOf x.2.2.natAbs).toArray td] }) :: news) := by
  unfold Spec; k_fill; w_top off
  intro dp un gd cn cs a ccd cl outer A₀ base h₀ L m s Q E B F X N T hk hd hu hret
  k_with_none
  k_with "getMethod ref" => (k_here; (first | (refine' get_match ?wF ?wX ?_; (case wF => k_asm); (case wX => k_asm)) | (refine' get_group ?wN ?whm ?_; (case wN => k_asm); (case whm => k_mem))))
  k_with "truthy ref" => (k_here; (refine' truthy_mat ?wN ?whm ?_; (case wN => k_asm); (case whm => k_mem)))
  k_with "getMethod bytes" => (k_here; refine get_split ?_)
  k_with "call builtin:re.Pattern.match" => (k_here; refine' call_match ?wF ?wX ?wN ?whT ?_; (case wF => k_asm); (case wX => k_asm); (case wN => k_asm); (case whT => assumption); intro mo' tup' h' F' N')
  k_with "call builtin:re.Match.group" => (k_here; refine' call_group_L ?wF ?wX ?wN ?whm ?wht ?whT ?_; (case wF => k_asm); (case wX => k_asm); (case wN => k_asm); (case whm => k_mem); (case wht => k_mem); (case whT => assumption); intro t' tk')
  k_with "call builtin:bytes.split" => (k_here; refine' split3 ?wF ?wN (noSp_word _) (noSp_word _) (noSp_word _) (word_ne ?wn1) (word_ne ?wn2) (word_ne ?wn3) ?wsz ?_; (case wF => k_asm); (case wN => k_asm); (case wn1 => assumption); (case wn2 => assumption); (case wn3 => assumption); (case wsz => assumption); intro l' ta' tb' tc' h' tk' F' N' l1; (try k_lt l1))
  k_with "call builtin:bytes.split" => (k_here; refine' split2 ?wF ?wN (noSp_word _) (noSp_word _) (word_ne ?wn1) (word_ne ?wn3) ?wsz ?_; (case wF => k_asm); (case wN => k_asm); (case wn1 => assumption); (case wn3 => assumption); (case wsz => assumption); intro l' ta' tc' h' tk' F' N' l1; (try k_lt l1))
  have hT := lt_of h1 h2 h3
  have hsz : (wordOf x.1.natAbs).length + (wordOf x.2.1.natAbs).length + (wordOf x.2.2.natAbs).length ≤ 16777000 := by
    have := w_small h1
    have := w_small h2
    have := w_small h3
    omega
  refine wpAny_call ?_
  k_dflt cell_enter
  k_steps
  all_goals (rename _ ∧ _ => hlt; exact hret _ _ _ _ (by assumption) (cb_drop (by assumption) fun p hp => by
    rcases List.mem_cons.mp hp with rfl | hp
    · exact .head _
    · simp [hp]) ⟨_, _, _, _, rfl, kst_ltOf hlt.2.2.2, rfl⟩)
theorem parse2_spec (w : World) (mean : ExcName → Option Value) (mg mb : PySem.Str → Option Value) (news : List (Addr × Obj)) (x : Int × Int × Int) (tb : Tok)
    (h1 : x.1.natAbs < 2 ^ 60) (h2 : x.2.1.natAbs < 2 ^ 60) (h3 : x.2.2.natAbs < 2 ^ 60) (n1 : x.1.natAbs ≠ 0) (n2 : x.2.1.natAbs = 0) (n3 : x.2.2.natAbs ≠ 0) :
    Spec w mean mg mb 2 50 news [.bytes (lineOf x) tb] (fun v nx => ∃ u ta td, v = .ref u ∧ (∀ p ∈ news, p.1 < u) ∧ nx = (u, { cls := .type "tuple", data := .seq #[.bytes (wordOf x.1.natAbs).toArray ta, .bytes (wordOf x.2.2.natAbs).toArray td] }) :: news) := by
  unfold Spec; k_fill; w_top off
  intro dp un gd cn cs a ccd cl outer A₀ base h₀ L m s Q E B F X N T hk hd hu hret
  k_with_none
  k_with "getMethod ref" => (k_here; (first | (refine' get_match ?wF ?wX ?_; (case wF => k_asm); (case wX => k_asm)) | (refine' get_group ?wN ?whm ?_; (case wN => k_asm); (case whm => k_mem))))
  k_with "truthy ref" => (k_here; (refine' truthy_mat ?wN ?whm ?_; (case wN => k_asm); (case whm => k_mem)))
  k_with "getMethod bytes" => (k_here; refine get_split ?_)
  k_with "call builtin:re.Pattern.match" => (k_here; refine' call_match ?wF ?wX ?wN ?whT ?_; (case wF => k_asm); (case wX => k_asm); (case wN => k_asm); (case whT => assumption); intro mo' tup' h' F' N')
  k_with "call builtin:re.Match.group" => (k_here; refine' call_group_L ?wF ?wX ?wN ?whm ?wht ?whT ?_; (case wF => k_asm); (case wX => k_asm); (case wN => k_asm); (case whm => k_mem); (case wht => k_mem); (case whT => assumption); intro t' tk')
  k_with "call builtin:bytes.split" => (k_here; refine' split3 ?wF ?wN (noSp_word _) (noSp_word _) (noSp_word _) (word_ne ?wn1) (word_ne ?wn2) (word_ne ?wn3) ?wsz ?_; (case wF => k_asm); (case wN => k_asm); (case wn1 => assumption); (case wn2 => assumption); (case wn3 => assumption); (case wsz => assumption); intro l' ta' tb' tc' h' tk' F' N' l1; (try k_lt l1))
  k_with "call builtin:bytes.split" => (k_here; refine' split2 ?wF ?wN (noSp_word _) (noSp_word _) (word_ne ?wn1) (word_ne ?wn3) ?wsz ?_; (case wF => k_asm); (case wN => k_asm); (case wn1 => assumption); (case wn3 => assumption); (case wsz => assumption); intro l' ta' tc' h' tk' F' N' l1; (try k_lt l1))
  k_with "call builtin:re.Match.group" => (k_here; refine' call_group_E ?wF ?wX ?wN ?whm ?wht ?whT ?we0 ?_; (case we0 => assumption); (case wF => k_asm); (case wX => k_asm); (case wN => k_asm); (case whm => k_mem); (case wht => k_mem); (case whT => assumption); intro t' tk')
  have hT := lt_of h1 h2 h3
  have hsz : (wordOf x.1.natAbs).length + (wordOf x.2.1.natAbs).length + (wordOf x.2.2.natAbs).length ≤ 16777000 := by
    have := w_small h1
    have := w_small h2
    have := w_small h3
    omega
  have hsz2 : (wordOf x.1.natAbs).length + (wordOf x.2.2.natAbs).length ≤ 16777000 := by omega
  have e0 : (wordOf x.2.1.natAbs).toArray = #[] := by rw [n2, wordOf]; rfl
  refine wpAny_call ?_
  k_dflt cell_enter
  k_steps
  all_goals (rename _ ∧ _ => hlt; exact hret _ _ _ _ (by assumption) (cb_drop (by assumption) fun p hp => by
    rcases List.mem_cons.mp hp with rfl | hp
    · exact .head _
    · simp [hp]) ⟨_, _, _, rfl, kst_ltOf hlt.2.2.2, rfl⟩)
end Mine
end

/- Bi -/
noncomputable section
open PySem PySem.W PySem.Spec PySem.Calls PyProof.Rows

namespace Mine
theorem item_at {prog : Program} {w : World} {A : Around} {E : Value → Shared → Prop} {s : Shared} {h₀ : Heap} {L l : Addr} {news : List (Addr × Obj)} {value slice : PySem.Expr} {vs : List Value} {c : Nat} {k : Int} (j : Nat) {u : Tok} {v : Value} {Q : Value → Shared → Prop}
    (N : News h₀ L s.heap news) (hm : (l, PySem.W.listOf vs.toArray c) ∈ news) (hk : k = (j : Int)) (hhi : j < 2 ^ 63) (hx : vs[j]? = some v) (h : Q v s)
    (hs : subscripted slice false (.ref l) (.int k u) = operate [.ref l, .int k u] (getItem (.ref l) (.int k u))) :
    wpAny (model prog w) A (subscriptTail value slice (.ref l) (.int k u)) Q E s :=
  have hl : s.heap.IsList l vs.toArray := ⟨_, N.get hm, rfl, _, rfl⟩
  tail_any hl.typeIs slot_list_getitem.lookup (wpAny_getItem_list hl (by omega) (by omega) (by rw [hk]; simpa using hx) h) hs
local macro_rules | `(tactic| walk_at $s:str) => `(tactic| k_extra $s)
theorem bis0_spec (w : World) (mean : ExcName → Option Value) (mg mb : PySem.Str → Option Value) (news : List (Addr × Obj)) (l : Addr) (c : Nat) (hm : (l, PySem.W.listOf #[] c) ∈ news) (x : Int) (tx t0 : Tok) :
    Spec w mean mg mb 1 68 news [.ref l, .int x tx, .int 0 t0, .none] (fun r nx => nx = news ∧ ∃ t, r = .int 0 t) := by
  unfold Spec; k_fill; w_top off
  intro dp un gd cn cs a ccd cl outer A₀ base h₀ L m s Q E B F X N T hk hd hu hret
  k_with_none
  k_with "subscriptTail" => (k_here; (with_reducible show wpAny _ _ (subscriptTail _ _ (Value.ref _) (Value.int _ _)) _ _ _); (first | (with_unfolding_all refine' item_at 0 ?wN ?whm ?wh0 ?wh1 ?whx ?_ ?whs; (case wh0 => decide); (case wN => k_asm); (case whm => k_mem); (case wh1 => decide); (case whx => rfl); (case whs => with_unfolding_all rfl); k_whole) | (with_unfolding_all refine' item_at 1 ?wN ?whm ?wh0 ?wh1 ?whx ?_ ?whs; (case wh0 => decide); (case wN => k_asm); (case whm => k_mem); (case wh1 => decide); (case whx => rfl); (case whs => with_unfolding_all rfl); k_whole)))
  refine wpAny_call ?_
  k_dflt (refine' code_def ?k1 ?k2 ?k3 ?k4 ?k5 ?kA ?kF ?kK ?k6 ?k7 ?k8 ?k9 ?kB ?_ ?c2 ?c3 ?c4 ?c5; (case kA => exact rfl); (case kF => exact rfl); (case kK => assumption); (case k1 => k_asm); (case k2 => k_asm); (case k3 => k_asm); (case k4 => k_asm); (case k5 => k_asm); (case k6 => k_is); (case k7 => k_is); (case k8 => ktr_room); (case k9 => (refine' kp_binds ?kx ?ke; (case kx => k_in); (case ke => exact fun _ => rfl))); (case c5 => decide); (case kB => exact locs rfl); (case c2 => exact rfl); (case c3 => exact rfl); (case c4 => exact rfl); k_whole; intro g' L' h' FG' F' N' B' X' T'; (try dsimp only); (try k_lift B'); (try k_fold))
  k_steps
  all_goals exact hret _ _ _ _ (by assumption) (by assumption) ⟨rfl, _, rfl⟩
theorem bis1_spec (w : World) (mean : ExcName → Option Value) (mg mb : PySem.Str → Option Value) (news : List (Addr × Obj)) (l : Addr) (c : Nat) (y : Int) (ty : Tok) (hm : (l, PySem.W.listOf #[.int y ty] c) ∈ news) (x : Int) (tx t0 : Tok) :
    Spec w mean mg mb 1 68 news [.ref l, .int x tx, .int 0 t0, .none] (fun r nx => nx = news ∧ ∃ t, (y < x ∧ r = .int 1 t) ∨ (¬ y < x ∧ r = .int 0 t)) := by
  unfold Spec; k_fill; w_top off
  intro dp un gd cn cs a ccd cl outer A₀ base h₀ L m s Q E B F X N T hk hd hu hret
  k_with_none
  k_with "subscriptTail" => (k_here; (with_reducible show wpAny _ _ (subscriptTail _ _ (Value.ref _) (Value.int _ _)) _ _ _); (first | (with_unfolding_all refine' item_at 0 ?wN ?whm ?wh0 ?wh1 ?whx ?_ ?whs; (case wh0 => decide); (case wN => k_asm); (case whm => k_mem); (case wh1 => decide); (case whx => rfl); (case whs => with_unfolding_all rfl); k_whole) | (with_unfolding_all refine' item_at 1 ?wN ?whm ?wh0 ?wh1 ?whx ?_ ?whs; (case wh0 => decide); (case wN => k_asm); (case whm => k_mem); (case wh1 => decide); (case whx => rfl); (case whs => with_unfolding_all rfl); k_whole)))
  refine wpAny_call ?_
  k_dflt (refine' code_def ?k1 ?k2 ?k3 ?k4 ?k5 ?kA ?kF ?kK ?k6 ?k7 ?k8 ?k9 ?kB ?_ ?c2 ?c3 ?c4 ?c5; (case kA => exact rfl); (case kF => exact rfl); (case kK => assumption); (case k1 => k_asm); (case k2 => k_asm); (case k3 => k_asm); (case k4 => k_asm); (case k5 => k_asm); (case k6 => k_is); (case k7 => k_is); (case k8 => ktr_room); (case k9 => (refine' kp_binds ?kx ?ke; (case kx => k_in); (case ke => exact fun _ => rfl))); (case c5 => decide); (case kB => exact locs rfl); (case c2 => exact rfl); (case c3 => exact rfl); (case c4 => exact rfl); k_whole; intro g' L' h' FG' F' N' B' X' T'; (try dsimp only); (try k_lift B'); (try k_fold))
  k_steps
  all_goals (first | exact hret _ _ _ _ (by assumption) (by assumption) ⟨rfl, _, .inl ⟨by omega, rfl⟩⟩ | exact hret _ _ _ _ (by assumption) (by assumption) ⟨rfl, _, .inr ⟨by omega, rfl⟩⟩ | trace_state)
theorem bis2_spec (w : World) (mean : ExcName → Option Value) (mg mb : PySem.Str → Option Value) (news : List (Addr × Obj)) (l : Addr) (c : Nat) (y z : Int) (ty tz : Tok) (hm : (l, PySem.W.listOf #[.int y ty, .int z tz] c) ∈ news) (x : Int) (tx t0 : Tok) :
    Spec w mean mg mb 1 68 news [.ref l, .int x tx, .int 0 t0, .none] (fun r nx => nx = news ∧ ∃ t, (z < x ∧ r = .int 2 t) ∨ (¬ z < x ∧ y < x ∧ r = .int 1 t) ∨ (¬ z < x ∧ ¬ y < x ∧ r = .int 0 t)) := by
  unfold Spec; k_fill; w_top off
  intro dp un gd cn cs a ccd cl outer A₀ base h₀ L m s Q E B F X N T hk hd hu hret
  k_with_none
  k_with "subscriptTail" => (k_here; (with_reducible show wpAny _ _ (subscriptTail _ _ (Value.ref _) (Value.int _ _)) _ _ _); (first | (with_unfolding_all refine' item_at 0 ?wN ?whm ?wh0 ?wh1 ?whx ?_ ?whs; (case wh0 => decide); (case wN => k_asm); (case whm => k_mem); (case wh1 => decide); (case whx => rfl); (case whs => with_unfolding_all rfl); k_whole) | (with_unfolding_all refine' item_at 1 ?wN ?whm ?wh0 ?wh1 ?whx ?_ ?whs; (case wh0 => decide); (case wN => k_asm); (case whm => k_mem); (case wh1 => decide); (case whx => rfl); (case whs => with_unfolding_all rfl); k_whole)))
  refine wpAny_call ?_
  k_dflt (refine' code_def ?k1 ?k2 ?k3 ?k4 ?k5 ?kA ?kF ?kK ?k6 ?k7 ?k8 ?k9 ?kB ?_ ?c2 ?c3 ?c4 ?c5; (case kA => exact rfl); (case kF => exact rfl); (case kK => assumption); (case k1 => k_asm); (case k2 => k_asm); (case k3 => k_asm); (case k4 => k_asm); (case k5 => k_asm); (case k6 => k_is); (case k7 => k_is); (case k8 => ktr_room); (case k9 => (refine' kp_binds ?kx ?ke; (case kx => k_in); (case ke => exact fun _ => rfl))); (case c5 => decide); (case kB => exact locs rfl); (case c2 => exact rfl); (case c3 => exact rfl); (case c4 => exact rfl); k_whole; intro g' L' h' FG' F' N' B' X' T'; (try dsimp only); (try k_lift B'); (try k_fold))
  k_steps
  all_goals (first | exact hret _ _ _ _ (by assumption) (by assumption) ⟨rfl, _, .inl ⟨by omega, rfl⟩⟩ | exact hret _ _ _ _ (by assumption) (by assumption) ⟨rfl, _, .inr (.inl ⟨by omega, by omega, rfl⟩)⟩ | exact hret _ _ _ _ (by assumption) (by assumption) ⟨rfl, _, .inr (.inr ⟨by omega, by omega, rfl⟩)⟩ | trace_state)
end Mine
end

/- Ins -/
noncomputable section
open PySem PySem.W PySem.Spec PySem.Calls PyProof.Rows

namespace Mine
local macro_rules | `(tactic| walk_at $s:str) => `(tactic| k_extra $s)
theorem ins0_spec (w : World) (mean : ExcName → Option Value) (mg mb : PySem.Str → Option Value) (post : List (Addr × Obj)) (l : Addr) (c : Nat) (hb : ∀ p ∈ post, p.1 ≠ l) (x : Int) (tx : Tok) :
    Spec w mean mg mb 2 59 ((l, PySem.W.listOf #[] c) :: post) [.ref l, .int x tx] (fun r nx => r = .none ∧ ∃ c' t1, nx = (l, PySem.W.listOf #[.int x t1] c') :: post) := by
  unfold Spec; k_fill; w_top off
  intro dp un gd cn cs a ccd cl outer A₀ base h₀ L m s Q E B F X N T hk hd hu hret
  k_with_none
  k_with "call ref" => (k_here; k_dflt (refine' Spec.use (bis0_spec _ _ _ _ _ _ _ ?whm _ _ _) ?wk1 ?wk2 ?wk3 ?wk4 ?wk5 ?wkK ?wkd ?wku ?_; (case wk1 => k_asm); (case wk2 => k_asm); (case wk3 => k_asm); (case wk4 => k_asm); (case wk5 => k_asm); (case wkK => first | exact rfl | assumption); (case wkd => ktr_room); (case wku => ktr_units); (case whm => k_mem)); intro r' nx' h' tk' F' N' ho'; obtain ⟨e1', t', e2'⟩ := ho'; subst e1' e2'; (try dsimp only))
  k_with "call ref" => (k_here; k_dflt (refine' Spec.use (bis1_spec _ _ _ _ _ _ _ _ _ ?whm _ _ _) ?wk1 ?wk2 ?wk3 ?wk4 ?wk5 ?wkK ?wkd ?wku ?_; (case wk1 => k_asm); (case wk2 => k_asm); (case wk3 => k_asm); (case wk4 => k_asm); (case wk5 => k_asm); (case wkK => first | exact rfl | assumption); (case wkd => ktr_room); (case wku => ktr_units); (case whm => k_mem)); intro r' nx' h' tk' F' N' ho'; obtain ⟨e1', t', e2'⟩ := ho'; subst e1'; obtain ⟨c1', e2'⟩ | ⟨c1', e2'⟩ := e2' <;> subst e2' <;> (try dsimp only))
  k_with "call ref" => (k_here; k_dflt (refine' Spec.use (bis2_spec _ _ _ _ _ _ _ _ _ _ _ ?whm _ _ _) ?wk1 ?wk2 ?wk3 ?wk4 ?wk5 ?wkK ?wkd ?wku ?_; (case wk1 => k_asm); (case wk2 => k_asm); (case wk3 => k_asm); (case wk4 => k_asm); (case wk5 => k_asm); (case wkK => first | exact rfl | assumption); (case wkd => ktr_room); (case wku => ktr_units); (case whm => k_mem)); intro r' nx' h' tk' F' N' ho'; obtain ⟨e1', t', e2'⟩ := ho'; subst e1'; obtain ⟨c1', e2'⟩ | ⟨c1', c2', e2'⟩ | ⟨c1', c2', e2'⟩ := e2' <;> subst e2' <;> (try dsimp only))
  k_with "call builtin:list.insert" => (k_here; k_dflt (refine' kl_insert ?wF ?wN ?wf ?we (Upd.head ?wb) ?wz ?_; (case wF => k_asm); (case wN => k_asm); (case wb => assumption); (case wf => rfl); (case we => kl_lit); (case wz => kl_room)); intro h' F' N')
  refine wpAny_call ?_
  k_dflt (refine' code_def ?k1 ?k2 ?k3 ?k4 ?k5 ?kA ?kF ?kK ?k6 ?k7 ?k8 ?k9 ?kB ?_ ?c2 ?c3 ?c4 ?c5; (case kA => exact rfl); (case kF => exact rfl); (case kK => assumption); (case k1 => k_asm); (case k2 => k_asm); (case k3 => k_asm); (case k4 => k_asm); (case k5 => k_asm); (case k6 => k_is); (case k7 => k_is); (case k8 => ktr_room); (case k9 => (refine' kp_binds ?kx ?ke; (case kx => k_in); (case ke => exact fun _ => rfl))); (case c5 => decide); (case kB => exact locs rfl); (case c2 => exact rfl); (case c3 => exact rfl); (case c4 => exact rfl); k_whole; intro g' L' h' FG' F' N' B' X' T'; (try dsimp only); (try k_lift B'); (try k_fold))
  k_steps
  all_goals exact hret _ _ _ _ (by assumption) (by assumption) ⟨rfl, _, _, rfl⟩
theorem ins1_spec (w : World) (mean : ExcName → Option Value) (mg mb : PySem.Str → Option Value) (post : List (Addr × Obj)) (l : Addr) (c : Nat) (y : Int) (ty : Tok) (hb : ∀ p ∈ post, p.1 ≠ l) (x : Int) (tx : Tok) :
    Spec w mean mg mb 2 59 ((l, PySem.W.listOf #[.int y ty] c) :: post) [.ref l, .int x tx] (fun r nx => r = .none ∧ ∃ c' t1 t2, nx = (l, PySem.W.listOf #[.int (min x y) t1, .int (max x y) t2] c') :: post) := by
  unfold Spec; k_fill; w_top off
  intro dp un gd cn cs a ccd cl outer A₀ base h₀ L m s Q E B F X N T hk hd hu hret
  k_with_none
  k_with "call ref" => (k_here; k_dflt (refine' Spec.use (bis0_spec _ _ _ _ _ _ _ ?whm _ _ _) ?wk1 ?wk2 ?wk3 ?wk4 ?wk5 ?wkK ?wkd ?wku ?_; (case wk1 => k_asm); (case wk2 => k_asm); (case wk3 => k_asm); (case wk4 => k_asm); (case wk5 => k_asm); (case wkK => first | exact rfl | assumption); (case wkd => ktr_room); (case wku => ktr_units); (case whm => k_mem)); intro r' nx' h' tk' F' N' ho'; obtain ⟨e1', t', e2'⟩ := ho'; subst e1' e2'; (try dsimp only))
  k_with "call ref" => (k_here; k_dflt (refine' Spec.use (bis1_spec _ _ _ _ _ _ _ _ _ ?whm _ _ _) ?wk1 ?wk2 ?wk3 ?wk4 ?wk5 ?wkK ?wkd ?wku ?_; (case wk1 => k_asm); (case wk2 => k_asm); (case wk3 => k_asm); (case wk4 => k_asm); (case wk5 => k_asm); (case wkK => first | exact rfl | assumption); (case wkd => ktr_room); (case wku => ktr_units); (case whm => k_mem)); intro r' nx' h' tk' F' N' ho'; obtain ⟨e1', t', e2'⟩ := ho'; subst e1'; obtain ⟨c1', e2'⟩ | ⟨c1', e2'⟩ := e2' <;> subst e2' <;> (try dsimp only))
  k_with "call ref" => (k_here; k_dflt (refine' Spec.use (bis2_spec _ _ _ _ _ _ _ _ _ _ _ ?whm _ _ _) ?wk1 ?wk2 ?wk3 ?wk4 ?wk5 ?wkK ?wkd ?wku ?_; (case wk1 => k_asm); (case wk2 => k_asm); (case wk3 => k_asm); (case wk4 => k_asm); (case wk5 => k_asm); (case wkK => first | exact rfl | assumption); (case wkd => ktr_room); (case wku => ktr_units); (case whm => k_mem)); intro r' nx' h' tk' F' N' ho'; obtain ⟨e1', t', e2'⟩ := ho'; subst e1'; obtain ⟨c1', e2'⟩ | ⟨c1', c2', e2'⟩ | ⟨c1', c2', e2'⟩ := e2' <;> subst e2' <;> (try dsimp only))
  k_with "call builtin:list.insert" => (k_here; k_dflt (refine' kl_insert ?wF ?wN ?wf ?we (Upd.head ?wb) ?wz ?_; (case wF => k_asm); (case wN => k_asm); (case wb => assumption); (case wf => rfl); (case we => kl_lit); (case wz => kl_room)); intro h' F' N')
  refine wpAny_call ?_
  k_dflt (refine' code_def ?k1 ?k2 ?k3 ?k4 ?k5 ?kA ?kF ?kK ?k6 ?k7 ?k8 ?k9 ?kB ?_ ?c2 ?c3 ?c4 ?c5; (case kA => exact rfl); (case kF => exact rfl); (case kK => assumption); (case k1 => k_asm); (case k2 => k_asm); (case k3 => k_asm); (case k4 => k_asm); (case k5 => k_asm); (case k6 => k_is); (case k7 => k_is); (case k8 => ktr_room); (case k9 => (refine' kp_binds ?kx ?ke; (case kx => k_in); (case ke => exact fun _ => rfl))); (case c5 => decide); (case kB => exact locs rfl); (case c2 => exact rfl); (case c3 => exact rfl); (case c4 => exact rfl); k_whole; intro g' L' h' FG' F' N' B' X' T'; (try dsimp only); (try k_lift B'); (try k_fold))
  k_steps
  · have e1 : min x y = y := by omega
    have e2 : max x y = x := by omega
    exact hret _ _ _ _ (by assumption) (by assumption) ⟨rfl, _, ty, tx, by rw [e1, e2]⟩
  · have e1 : min x y = x := by omega
    have e2 : max x y = y := by omega
    exact hret _ _ _ _ (by assumption) (by assumption) ⟨rfl, _, tx, ty, by rw [e1, e2]⟩
theorem ins2_spec (w : World) (mean : ExcName → Option Value) (mg mb : PySem.Str → Option Value) (post : List (Addr × Obj)) (l : Addr) (c : Nat) (y z : Int) (ty tz : Tok) (hb : ∀ p ∈ post, p.1 ≠ l) (x : Int) (tx : Tok) (hyz : y ≤ z) :
    Spec w mean mg mb 2 59 ((l, PySem.W.listOf #[.int y ty, .int z tz] c) :: post) [.ref l, .int x tx] (fun r nx => r = .none ∧ ∃ c' t1 t2 t3, nx = (l, PySem.W.listOf #[.int (min x y) t1, .int (max y (min x z)) t2, .int (max x z) t3] c') :: post) := by
  unfold Spec; k_fill; w_top off
  intro dp un gd cn cs a ccd cl outer A₀ base h₀ L m s Q E B F X N T hk hd hu hret
  k_with_none
  k_with "call ref" => (k_here; k_dflt (refine' Spec.use (bis0_spec _ _ _ _ _ _ _ ?whm _ _ _) ?wk1 ?wk2 ?wk3 ?wk4 ?wk5 ?wkK ?wkd ?wku ?_; (case wk1 => k_asm); (case wk2 => k_asm); (case wk3 => k_asm); (case wk4 => k_asm); (case wk5 => k_asm); (case wkK => first | exact rfl | assumption); (case wkd => ktr_room); (case wku => ktr_units); (case whm => k_mem)); intro r' nx' h' tk' F' N' ho'; obtain ⟨e1', t', e2'⟩ := ho'; subst e1' e2'; (try dsimp only))
  k_with "call ref" => (k_here; k_dflt (refine' Spec.use (bis1_spec _ _ _ _ _ _ _ _ _ ?whm _ _ _) ?wk1 ?wk2 ?wk3 ?wk4 ?wk5 ?wkK ?wkd ?wku ?_; (case wk1 => k_asm); (case wk2 => k_asm); (case wk3 => k_asm); (case wk4 => k_asm); (case wk5 => k_asm); (case wkK => first | exact rfl | assumption); (case wkd => ktr_room); (case wku => ktr_units); (case whm => k_mem)); intro r' nx' h' tk' F' N' ho'; obtain ⟨e1', t', e2'⟩ := ho'; subst e1'; obtain ⟨c1', e2'⟩ | ⟨c1', e2'⟩ := e2' <;> subst e2' <;> (try dsimp only))
  k_with "call ref" => (k_here; k_dflt (refine' Spec.use (bis2_spec _ _ _ _ _ _ _ _ _ _ _ ?whm _ _ _) ?wk1 ?wk2 ?wk3 ?wk4 ?wk5 ?wkK ?wkd ?wku ?_; (case wk1 => k_asm); (case wk2 => k_asm); (case wk3 => k_asm); (case wk4 => k_asm); (case wk5 => k_asm); (case wkK => first | exact rfl | assumption); (case wkd => ktr_room); (case wku => ktr_units); (case whm => k_mem)); intro r' nx' h' tk' F' N' ho'; obtain ⟨e1', t', e2'⟩ := ho'; subst e1'; obtain ⟨c1', e2'⟩ | ⟨c1', c2', e2'⟩ | ⟨c1', c2', e2'⟩ := e2' <;> subst e2' <;> (try dsimp only))
  k_with "call builtin:list.insert" => (k_here; k_dflt (refine' kl_insert ?wF ?wN ?wf ?we (Upd.head ?wb) ?wz ?_; (case wF => k_asm); (case wN => k_asm); (case wb => assumption); (case wf => rfl); (case we => kl_lit); (case wz => kl_room)); intro h' F' N')
  refine wpAny_call ?_
  k_dflt (refine' code_def ?k1 ?k2 ?k3 ?k4 ?k5 ?kA ?kF ?kK ?k6 ?k7 ?k8 ?k9 ?kB ?_ ?c2 ?c3 ?c4 ?c5; (case kA => exact rfl); (case kF => exact rfl); (case kK => assumption); (case k1 => k_asm); (case k2 => k_asm); (case k3 => k_asm); (case k4 => k_asm); (case k5 => k_asm); (case k6 => k_is); (case k7 => k_is); (case k8 => ktr_room); (case k9 => (refine' kp_binds ?kx ?ke; (case kx => k_in); (case ke => exact fun _ => rfl))); (case c5 => decide); (case kB => exact locs rfl); (case c2 => exact rfl); (case c3 => exact rfl); (case c4 => exact rfl); k_whole; intro g' L' h' FG' F' N' B' X' T'; (try dsimp only); (try k_lift B'); (try k_fold))
  k_steps
  · have e1 : min x y = y := by omega
    have e2 : max y (min x z) = z := by omega
    have e3 : max x z = x := by omega
    exact hret _ _ _ _ (by assumption) (by assumption) ⟨rfl, _, ty, tz, tx, by rw [e1, e2, e3]⟩
  · have e1 : min x y = y := by omega
    have e2 : max y (min x z) = x := by omega
    have e3 : max x z = z := by omega
    exact hret _ _ _ _ (by assumption) (by assumption) ⟨rfl, _, ty, tx, tz, by rw [e1, e2, e3]⟩
  · have e1 : min x y = x := by omega
    have e2 : max y (min x z) = y := by omega
    have e3 : max x z = z := by omega
    exact hret _ _ _ _ (by assumption) (by assumption) ⟨rfl, _, tx, ty, tz, by rw [e1, e2, e3]⟩
end Mine
end

/- Ct -/
noncomputable section
open PySem PySem.W PySem.Spec PySem.Calls PyProof.Rows PyProof.Rows.LCg

namespace Mine
noncomputable abbrev tupL (vs : Array Value) : Obj := { cls := .type "tuple", data := .seq vs }
section
variable {prog : Program} {w : World} {A : Around} {E : Value → Shared → Prop} {s : Shared} {h₀ : Heap} {L : Addr} {m : PySem.Str → Option Value} {env : Env}
/-- what the source of a comprehension over a made tuple shows -/
noncomputable def TupSrc (prog : Program) (w : World) (A : Around) (h₀ : Heap) (L : Addr) (m : PySem.Str → Option Value) (env : Env) (elt : PySem.Expr) (x : PySem.Str) (scope : Scope) (cl : List (PySem.Str × Addr)) (Fin : Shared → List Value → List (Addr × Obj) → Prop) (xv : Value) (s₁ : Shared) : Prop :=
  ∃ ax its news, xv = .ref ax ∧ A.handled = none ∧ Fr h₀ L s₁.heap m ∧ News h₀ L s₁.heap news ∧ (ax, tupL its) ∈ news ∧ its.size ≤ sizeLine ∧
    ∀ s₂ : Shared, (∃ h, s₂ = { s₁ with heap := h }) → CompRest prog w A h₀ L m env elt x scope cl s₂ (fun nw => (ax, tupL its) ∈ nw) (fun i v => its[i]? = some v) (Fin s₂) its.size 0 [] news
theorem TupSrc.mk {elt : PySem.Expr} {x : PySem.Str} {scope : Scope} {cl : List (PySem.Str × Addr)} {Fin : Shared → List Value → List (Addr × Obj) → Prop} {ax : Addr} {its : Array Value} {news : List (Addr × Obj)} {s₁ : Shared}
    (hh : A.handled = none) (F : Fr h₀ L s₁.heap m) (N : News h₀ L s₁.heap news) (hm : (ax, tupL its) ∈ news) (hz : its.size ≤ sizeLine)
    (h : ∀ g, CompRest prog w A h₀ L m env elt x scope cl { s₁ with heap := g } (fun nw => (ax, tupL its) ∈ nw) (fun i v => its[i]? = some v) (Fin { s₁ with heap := g }) its.size 0 [] news) :
    TupSrc prog w A h₀ L m env elt x scope cl Fin (.ref ax) s₁ := ⟨ax, its, news, rfl, hh, F, N, hm, hz, fun _ ⟨g, e⟩ => e ▸ h g⟩
theorem assign_comp_tup {elt iter : PySem.Expr} {x y : PySem.Str} {px py : Pos} {scope : Scope} {cl : List (PySem.Str × Addr)} {pos spos : Pos} {Q : Flow → Shared → Prop} (_F₀ : Fr h₀ L s.heap m) (hLe : env.locals = L)
    (hsw : swapsWith (.ListComp elt [⟨.Name x px, iter, [], 0⟩] scope pos) (some (.Name y py)) spos.line env = pure true)
    (hclos : closureFor scope env = pure cl) (hcell : ∀ z ∈ scope.names, z.2 ≠ .cell) (hkind : scope.kind = .function)
    (hnames : ∀ z ∈ scope.names, z.2 = .local → scope.names.lookup z.1 = some .local) (hx : scope.names.lookup x = some .local)
    (hy : env.kindOf y = some .local) (hp : (env.scope.kind == .class || (env.scope.kind == .module && env.locals != env.globals)) = false)
    (h : wpAny (model prog w) A (eval iter env) (TupSrc prog w A h₀ L m env elt x scope cl (fun s₂ => FinA h₀ L m s₂ y Q)) E s)
    (hs : ∀ x, foldedSetIterable iter env x = pure x) :
    wpAny (model prog w) A (exec (.Assign [.Name y py] (.ListComp elt [⟨.Name x px, iter, [], 0⟩] scope pos) spos) env) Q E s := by
  subst hLe
  rw [exec_Assign_Name_used _ _ _ _ hsw]
  refine wpAny_bind (wpAny_standAt (wpAny_bind ?_))
  show wpAny _ A (do let _ ← comprehension (.ListComp elt [⟨.Name x px, iter, [], 0⟩] scope pos) scope env _ (newList []) false (eval iter env) (some (assign (.Name y py) env))) _ _ s
  refine wpAny_bind (wpAny_mono (wpAny_comprehension_free (use := some (assign (.Name y py) env)) (Q := fun _ s' => Q .next s') rfl hs hclos hkind hnames
    (wpAny_mono h (fun xv s₁ h₁ => ?_) fun _ _ e => e)) (fun _ s' hq => wpAny_pure (wpAny_pure hq)) fun _ _ e => e)
  obtain ⟨ax, its, news, rfl, hh, F, N, hm, hsz, R⟩ := h₁
  have hl : s₁.heap.IsTuple ax its := ⟨_, N.get hm, rfl, _, rfl⟩
  have hlt : ax < s₁.heap.objs.size := Heap.lt_size (N.get hm)
  refine wpAny_pyIter_tuple hl ?_
  have up : ∀ b o, s₁.heap.get? b = some o → (s₁.heap.push { cls := .type "tuple_iterator", data := .fields #[.ref ax, .int 0 0] }).get? b = some o := fun b o e => Heap.get?_push_of_some _ e
  have W := Walks.tuple (prog := prog) (w := w) hh s₁.heap.objs.size ax (Nat.ne_of_lt hlt) its
  have R' := R { s₁ with heap := s₁.heap.push { cls := .type "tuple_iterator", data := .fields #[.ref ax, .int 0 0] } } ⟨_, rfl⟩
  refine block_U W hsz (fun i h st => by obtain ⟨o, e, _⟩ := st.1; exact ⟨o, e⟩) (fun i h h' o nw st e e' k N' S => ?_) hcell hkind hx ⟨⟨_, Heap.get?_push_size _ rfl, rfl, rfl⟩, ⟨_, up _ _ (N.get hm), rfl, _, rfl⟩⟩ (fun b hb => ?_)
    (F.keeps up) (N.grown up) (Nat.ne_of_lt F.ns.lt) (next_is_new F) (fun p hp => Nat.ne_of_lt (Heap.lt_size (N p hp).1)) hm R' ?_
  · refine ⟨?_, ⟨_, N'.get S, rfl, _, rfl⟩⟩
    obtain ⟨o', q, r⟩ := st.1
    rw [e] at q; cases q
    exact ⟨o, e', r⟩
  · show b < (s₁.heap.push _).objs.size
    rw [Heap.size_push]
    rcases List.mem_cons.mp hb with rfl | hb
    · exact Nat.lt_succ_self _
    · rw [List.mem_singleton.mp hb]; exact Nat.lt_succ_of_lt hlt
  · intro D C h' tk m' ys news' F' N' o1 hn hC₀ hD₀ hCL hDL hCD offC fin
    show wpAny _ A (assign (.Name y py) env (.ref D)) _ _ _
    refine wpAny_assign_Name (wpAny_storeName_local hy F'.ns (fun h₂ hn₂ hs₂ => ?_) hp)
    have hL₀ : h₀.get? env.locals = none := Heap.get?_none_of_le F'.above
    have F₂ : Fr h₀ env.locals h₂ (fun z => if z = y then some (.ref D) else m z) := ⟨hn₂, fun b o e => hs₂.extBut b o (fun q => by rw [q, hL₀] at e; cases e) (F'.keep b o e), F'.above⟩
    refine ⟨m', hn.sameBut hs₂ hCL, fun h'' hs'' => fin D h'' _ (F₂.change hs'' hCL hC₀) (fun p hp => ?_) o1⟩
    have z : h₂.get? p.1 = some p.2 := hs₂.extBut _ _ (N' p hp).2.1 (N' p hp).1
    refine ⟨hs''.extBut _ _ ?_ z, (N' p hp).2⟩
    rcases List.mem_cons.mp hp with rfl | hp
    · exact Ne.symm hCD
    · exact offC p hp
end
end Mine
end

/- Lp -/
noncomputable section
open PySem PySem.W PySem.Spec PySem.Calls PyProof.Rows PyProof.Rows.LCg

namespace Mine
section
variable {prog : Program} {w : World} {A : Around} {E : Value → Shared → Prop} {s : Shared} {h₀ : Heap} {env : Env} {x : PySem.Str} {body : List Stmt} {Q : Flow → Shared → Prop}
/-- a turn's end: the object at l has become one of P, all else stands -/
noncomputable def T3End (h₀ : Heap) (L : Addr) (x : PySem.Str) (m₀ : PySem.Str → Option Value) (l : Addr) (rest : List (Addr × Obj)) (P : Obj → Prop) (s₁ s₂ : Shared) : Prop :=
  ∃ h' tk o' m', s₂ = { s₁ with heap := h', toks := tk } ∧ Fr h₀ L h' m' ∧ (∀ z, z ≠ x → m' z = m₀ z) ∧ News h₀ L h' ((l, o') :: rest) ∧ P o'
noncomputable def T3Post (h₀ : Heap) (L : Addr) (x : PySem.Str) (m₀ : PySem.Str → Option Value) (l : Addr) (rest : List (Addr × Obj)) (P : Obj → Prop) (s₁ : Shared) (Q : Flow → Shared → Prop) (f : Flow) (s₂ : Shared) : Prop :=
  match f with
  | .ret v => Q (.ret v) s₂
  | .brk => Q .next s₂
  | _ => T3End h₀ L x m₀ l rest P s₁ s₂
theorem T3End.intro {L : Addr} {m₀ m' : PySem.Str → Option Value} {l : Addr} {o' : Obj} {rest : List (Addr × Obj)} {P : Obj → Prop} {s₁ : Shared} {h' : Heap} {tk : Nat} (F : Fr h₀ L h' m') (hm : ∀ z, z ≠ x → m' z = m₀ z) (N : News h₀ L h' ((l, o') :: rest)) (hP : P o') :
    T3End h₀ L x m₀ l rest P s₁ { s₁ with heap := h', toks := tk } := ⟨h', tk, o', m', rfl, F, hm, N, hP⟩
noncomputable def T3At (P1 P2 P3 : Obj → Prop) (o0 : Obj) : Nat → Obj → Prop
  | 0, o => o = o0
  | 1, o => P1 o
  | 2, o => P2 o
  | _, o => P3 o
theorem for_tup3 {D l : Addr} {v1 v2 v3 : Value} {o0 : Obj} {rest : List (Addr × Obj)} {m₀ : PySem.Str → Option Value} (P1 P2 P3 : Obj → Prop) (hh : A.handled = none)
    (F : Fr h₀ env.locals s.heap m₀) (N : News h₀ env.locals s.heap ((D, tupL #[v1, v2, v3]) :: (l, o0) :: rest)) (hl : ∀ p ∈ rest, p.1 ≠ l) (hD : ∀ p ∈ (l, o0) :: rest, p.1 ≠ D)
    (t1 : ∀ h tk own, (∀ p ∈ rest ++ own, p.1 ≠ l) → Fr h₀ env.locals h (fun y => if y = x then some v1 else m₀ y) → News h₀ env.locals h ((l, o0) :: (rest ++ own)) →
      wpAny (model prog w) A (execs body env) (T3Post h₀ env.locals x m₀ l (rest ++ own) P1 { s with heap := h, toks := tk } Q) E { s with heap := h, toks := tk })
    (t2 : ∀ o h tk own, P1 o → (∀ p ∈ rest ++ own, p.1 ≠ l) → Fr h₀ env.locals h (fun y => if y = x then some v2 else m₀ y) → News h₀ env.locals h ((l, o) :: (rest ++ own)) →
      wpAny (model prog w) A (execs body env) (T3Post h₀ env.locals x m₀ l (rest ++ own) P2 { s with heap := h, toks := tk } Q) E { s with heap := h, toks := tk })
    (t3 : ∀ o h tk own, P2 o → (∀ p ∈ rest ++ own, p.1 ≠ l) → Fr h₀ env.locals h (fun y => if y = x then some v3 else m₀ y) → News h₀ env.locals h ((l, o) :: (rest ++ own)) →
      wpAny (model prog w) A (execs body env) (T3Post h₀ env.locals x m₀ l (rest ++ own) P3 { s with heap := h, toks := tk } Q) E { s with heap := h, toks := tk })
    (done : ∀ o (u : PySem.Str → Option Value) h tk, P3 o → Fr h₀ env.locals h (fun y => if y = x then u y else m₀ y) → News h₀ env.locals h ((l, o) :: rest) → Q .next { s with heap := h, toks := tk }) :
    wpAny (model prog w) A (pyIter (.ref D)) (fun it s₂ => LoopAtV prog w A h₀ env x body Q E it s₂) E s := by
  have hax := N (D, tupL #[v1, v2, v3]) (.head _)
  have ht : s.heap.IsTuple D #[v1, v2, v3] := ⟨_, hax.1, rfl, _, rfl⟩
  have hlt : D < s.heap.objs.size := Heap.lt_size hax.1
  refine wpAny_pyIter_tuple ht ?_
  have W := Walks.tuple (prog := prog) (w := w) hh s.heap.objs.size D (Nat.ne_of_lt hlt) #[v1, v2, v3]
  have mEq : ∀ (m₁ : PySem.Str → Option Value) (v : Value), (∀ z, z ≠ x → m₁ z = m₀ z) → (fun y => if y = x then some v else m₁ y) = fun y => if y = x then some v else m₀ y := by
    intro m₁ v hm
    funext y
    by_cases hy : y = x
    · rw [if_pos hy, if_pos hy]
    · rw [if_neg hy, if_neg hy, hm y hy]
  have hDL : D ≠ env.locals := hax.2.1
  have N0 : News h₀ env.locals s.heap ((l, o0) :: rest) := fun p hp => N p (.tail _ hp)
  let J : Nat → (PySem.Str → Option Value) → List (Addr × Obj) → Prop := fun i m₁ nx => (∀ z, z ≠ x → m₁ z = m₀ z) ∧ ∃ o, T3At P1 P2 P3 o0 i o ∧ nx = (l, o) :: rest
  have post : ∀ (P : Obj → Prop) (i : Nat) (own : List (Addr × Obj)) (s₁ : Shared), (∀ o, P o → T3At P1 P2 P3 o0 (i + 1) o) → ∀ f s₂,
      T3Post h₀ env.locals x m₀ l (rest ++ own) P s₁ Q f s₂ →
      InvPostN h₀ env.locals (J (i + 1)) own (((l, o0) :: rest).map (·.1)) s₁ Q f s₂ := by
    intro P i own s₁ hP f s₂ hp
    have fin : T3End h₀ env.locals x m₀ l (rest ++ own) P s₁ s₂ → InvEndN h₀ env.locals (J (i + 1)) own (((l, o0) :: rest).map (·.1)) s₁ s₂ := by
      rintro ⟨h', tk, o', m', rfl, F', hm, N', hq⟩
      refine ⟨h', tk, m', _, (l, o') :: rest, rfl, F', N', ?_, ?_, rfl, hm, o', hP o' hq, rfl⟩
      · intro p hp
        simp only [List.mem_cons, List.mem_append] at hp ⊢
        rcases hp with h | h
        · exact .inl h
        · exact .inr (.inl h)
      · intro p hp
        simp only [List.mem_cons, List.mem_append]
        exact .inr (.inr hp)
    cases f with
    | ret v => exact hp
    | brk => exact hp
    | next => exact fin hp
    | cont => exact fin hp
  refine loop_invN J W ?_ ?_ ?_ ?_ ⟨⟨_, Heap.get?_push_size _ rfl, rfl, rfl⟩, ⟨_, Heap.get?_push_of_some _ hax.1, rfl, _, rfl⟩⟩ (F.push _) (fun p hp => ⟨Heap.get?_push_of_some _ (N0 p hp).1, (N0 p hp).2⟩) ⟨fun _ _ => rfl, o0, rfl, rfl⟩ ?_ ?_
  · intro hm
    rcases List.mem_cons.mp hm with e | hm
    · exact absurd F.ns.lt (e ▸ Nat.lt_irrefl _)
    · exact hDL (List.mem_singleton.mp hm).symm
  · intro b hb
    rw [List.mem_singleton.mp hb]
    exact next_is_new F
  · intro p hp hI
    exact absurd (Heap.lt_size (N0 p hp).1) ((List.mem_singleton.mp hI) ▸ Nat.lt_irrefl _)
  · intro p hp hI
    rcases List.mem_cons.mp hI with e | hI
    · exact absurd (Heap.lt_size (N0 p hp).1) (e ▸ Nat.lt_irrefl _)
    · exact hD p hp (List.mem_singleton.mp hI)
  · rintro i v m₁ nx h tk own hi hP _ hoff ⟨hm, o, ho, rfl⟩ F₁ N₁
    rw [mEq m₁ v hm] at F₁
    have hap : ∀ p ∈ rest ++ own, p.1 ≠ l := by
      intro p hp
      rcases List.mem_append.mp hp with hp | hp
      · exact hl p hp
      · exact hoff p hp l (by simp)
    have hi3 : i < 3 := hi
    have : i = 0 ∨ i = 1 ∨ i = 2 := by omega
    rcases this with e | e | e <;> subst e
    · have hv : v1 = v := Option.some.inj hP
      subst hv
      have ho' : o = o0 := ho
      subst ho'
      exact wpAny_mono (t1 h tk own hap F₁ N₁) (post P1 0 own _ fun _ h => h) fun _ _ e => e
    · have hv : v2 = v := Option.some.inj hP
      subst hv
      exact wpAny_mono (t2 o h tk own ho hap F₁ N₁) (post P2 1 own _ fun _ h => h) fun _ _ e => e
    · have hv : v3 = v := Option.some.inj hP
      subst hv
      exact wpAny_mono (t3 o h tk own ho hap F₁ N₁) (post P3 2 own _ fun _ h => h) fun _ _ e => e
  · rintro m₁ nx h tk ⟨hm, o, ho, rfl⟩ F₁ N₁
    refine done o m₁ h tk ho ?_ N₁
    have e : (fun y => if y = x then m₁ y else m₀ y) = m₁ := by
      funext y
      by_cases hy : y = x
      · rw [if_pos hy]
      · rw [if_neg hy, hm y hy]
    rw [e]; exact F₁
/-- a loop over range(0, n): what a turn makes may be kept -/
theorem for_rangeG {r : Addr} {t₀ u₀ v₀ : Tok} {b₀ : Int} {n : Nat} {m₀ : PySem.Str → Option Value} {news : List (Addr × Obj)} (J : Nat → (PySem.Str → Option Value) → List (Addr × Obj) → Prop) (hh : A.handled = none)
    (hr : IsRange s.heap r 0 b₀ 1 t₀ u₀ v₀) (hsmall : Builtin.Range.small 0 b₀ 1 = true) (hn : Builtin.Range.rangeSize 0 b₀ 1 = (n : Int)) (F : Fr h₀ env.locals s.heap m₀) (N : News h₀ env.locals s.heap news) (hj : J 0 m₀ news)
    (turn : ∀ i t m₁ nx h tk own, i < n → TbOff own nx → J i m₁ nx → Fr h₀ env.locals h (fun y => if y = x then some (.int (i : Int) t) else m₁ y) → News h₀ env.locals h (nx ++ own) →
      wpAny (model prog w) A (execs body env) (TbPost h₀ env.locals (J (i + 1)) own { s with heap := h, toks := tk } Q) E { s with heap := h, toks := tk })
    (done : ∀ m₁ nx h tk, J n m₁ nx → Fr h₀ env.locals h m₁ → News h₀ env.locals h nx → Q .next { s with heap := h, toks := tk }) :
    wpAny (model prog w) A (pyIter (.ref r)) (fun it s₂ => LoopAtV prog w A h₀ env x body Q E it s₂) E s := by
  refine wpAny_pyIter_range hr hsmall ?_
  have W : Walks prog w A s.heap.objs.size [s.heap.objs.size] [s.heap.objs.size] n (fun i v => i < n ∧ ∃ t, v = .int (0 + i * 1) t)
      (fun i h => IsRangeIter h s.heap.objs.size (0 + (i : Nat) * 1) ((n : Int) - (i : Nat)) 1) := (Walks.range hh _ 0 1 n).bound
  refine ⟨_, _, _, n, _, _, m₀, news, J, rfl, W, ?_, ?_, ?_, (by show IsRangeIter _ _ _ _ _; rw [hn]; simpa using Heap.get?_push_size _ rfl), F.push _, (fun p hp => ⟨Heap.get?_push_of_some _ (N p hp).1, (N p hp).2⟩), hj, ?_, ?_⟩
  · intro hm
    exact absurd F.ns.lt ((List.mem_singleton.mp hm) ▸ Nat.lt_irrefl _)
  · intro b hb
    rw [List.mem_singleton.mp hb]
    exact next_is_new F
  · intro p hp hI
    exact absurd (Heap.lt_size (N p hp).1) ((List.mem_singleton.mp hI) ▸ Nat.lt_irrefl _)
  · rintro i v m₁ nx s₁ own ⟨hh', tk', rfl⟩ hin ⟨_, t, rfl⟩ hJ hoff hown _ hmem hst F₁ N₁
    have hst' : hh'.get? s.heap.objs.size = some _ := hst
    have hI := hmem _ (.head _) (next_is_new F) _ hst'
    have hsep : TbOff own nx := by
      intro p hp q hq e
      have h1 := List.mem_singleton.mp (hown p hp)
      exact hoff q hq (List.mem_singleton.mpr (by rw [← e, h1]))
    have e1 : (0 : Int) + (i : Int) * 1 = (i : Int) := by omega
    rw [e1] at F₁
    have N₂ : News h₀ env.locals hh' (nx ++ own) := fun p hp => N₁ p ((List.mem_append.mp hp).elim (fun h => List.mem_append.mpr (.inr h)) fun h => List.mem_append.mpr (.inl h))
    refine wpAny_mono (turn i t m₁ nx hh' tk' own hin hsep hJ F₁ N₂) (fun f s₂ p => ?_) fun _ _ e => e
    have fin : TbEnd h₀ env.locals (J (i + 1)) own { s with heap := hh', toks := tk' } s₂ → LoopStepU h₀ env.locals [s.heap.objs.size] own (J (i + 1)) { s with heap := hh', toks := tk' } .next s₂ := by
      rintro ⟨h', tk, m', news', nx', e, F', N', hn', ho, ha, hm⟩
      exact ⟨rfl, h', tk, m', nx', e, F', fun p hp => N' p ((List.mem_append.mp hp).elim (ho p) (hn' p)), fun p hp hq => ha _ hI p hp (List.mem_singleton.mp hq).symm, hm⟩
    cases f with
    | ret v => exact .ret p
    | brk => exact .brk p
    | next => exact .next (fin p)
    | cont => exact .cont (fin p)
  · rintro h' tk m' news' F' N' _ hJ
    exact done m' news' h' tk hJ F' N'
end
end Mine
end

/- Rl -/
noncomputable section
open PySem PySem.W PySem.Spec PySem.Calls PyProof.Rows

namespace Mine
noncomputable abbrev R3T := Int × Int × Int
noncomputable def s3 (x y z : Int) : R3T := (min z (min y x), max (min y x) (min z (max y x)), max z (max y x))
theorem s3_12 (x y z : Int) : s3 x y z = s3 y x z := by
  unfold s3
  rw [Int.min_comm y x, Int.max_comm y x]
theorem s3_of {x y z : Int} (h1 : x ≤ y) (h2 : y ≤ z) : s3 x y z = (x, y, z) := by
  unfold s3
  rw [Int.min_eq_right h1, Int.max_eq_left h1, Int.min_eq_right h2, Int.max_eq_left h2, Int.min_eq_right (Int.le_trans h1 h2), Int.max_eq_right h1]
theorem s3_le {x y z : Int} (h1 : x ≤ y) : s3 x y z = (min z x, max x (min z y), max z y) := by
  unfold s3
  rw [Int.min_eq_right h1, Int.max_eq_left h1]
theorem s3_of2 {x y z : Int} (h1 : x ≤ z) (h2 : z ≤ y) : s3 x y z = (x, z, y) := by
  rw [s3_le (Int.le_trans h1 h2), Int.min_eq_right h1, Int.min_eq_left h2, Int.max_eq_right h1, Int.max_eq_right h2]
theorem s3_of3 {x y z : Int} (h1 : z ≤ x) (h2 : x ≤ y) : s3 x y z = (z, x, y) := by
  rw [s3_le h2, Int.min_eq_left h1, Int.min_eq_left (Int.le_trans h1 h2), Int.max_eq_left h1, Int.max_eq_right (Int.le_trans h1 h2)]
theorem six {P : Prop} (x y z : Int) (h1 : x ≤ y → y ≤ z → P) (h2 : x ≤ z → z ≤ y → P) (h3 : y ≤ x → x ≤ z → P) (h4 : y ≤ z → z ≤ x → P) (h5 : z ≤ x → x ≤ y → P) (h6 : z ≤ y → y ≤ x → P) : P := by
  rcases Int.le_total x y with a | a <;> rcases Int.le_total y z with b | b <;> rcases Int.le_total x z with c | c
  · exact h1 a b
  · exact h1 a b
  · exact h2 c b
  · exact h5 c a
  · exact h3 a c
  · exact h4 b c
  · exact h6 b a
  · exact h6 b a
theorem s3_23 (x y z : Int) : s3 x y z = s3 x z y := by
  refine six x y z (fun a b => ?_) (fun a b => ?_) (fun a b => ?_) (fun a b => ?_) (fun a b => ?_) (fun a b => ?_)
  · rw [s3_of a b, s3_of2 a b]
  · rw [s3_of2 a b, s3_of a b]
  · rw [s3_12 x y z, s3_of a b, s3_of3 a b]
  · rw [s3_12 x y z, s3_of2 a b, s3_12 x z y, s3_of3 a b]
  · rw [s3_of3 a b, s3_12 x z y, s3_of a b]
  · rw [s3_12 x y z, s3_of3 a b, s3_12 x z y, s3_of2 a b]
theorem s3_rot (x y z : Int) : s3 x y z = s3 y z x := by rw [s3_12 x y z, s3_23 y x z]
noncomputable def stepR (r : R3T) : R3T := s3 (-r.1) (r.2.1 + 2 * r.1) (r.2.2 + 2 * r.1)
noncomputable def runN : Nat → R3T → R3T
  | 0, r => r
  | n + 1, r => if 0 ≤ r.1 then r else runN n (stepR r)
theorem runN_stop {n : Nat} {r res : R3T} (h : runN n r = res) (h0 : 0 ≤ r.1) : r = res := by
  cases n with
  | zero => exact h
  | succ n => rw [runN, if_pos h0] at h; exact h
theorem runN_go {i : Nat} {r res : R3T} (h : runN (64 - i) r = res) (h0 : ¬ 0 ≤ r.1) (hi : i < 64) : runN (64 - (i + 1)) (stepR r) = res := by
  have e : 64 - i = (64 - (i + 1)) + 1 := by omega
  rw [e, runN, if_neg h0] at h; exact h
noncomputable def rowO (r : R3T) (o : Obj) : Prop := ∃ t1 t2 t3 c', o = PySem.W.listOf #[.int r.1 t1, .int r.2.1 t2, .int r.2.2 t3] c'
noncomputable def rowO1 (a : Int) (o : Obj) : Prop := ∃ t c', o = PySem.W.listOf #[.int a t] c'
noncomputable def rowO2 (a b : Int) (o : Obj) : Prop := ∃ t1 t2 c', o = PySem.W.listOf #[.int (min b a) t1, .int (max b a) t2] c'
section
variable {prog : Program} {w : World} {A : Around} {E : Value → Shared → Prop} {s : Shared} {h₀ : Heap} {env : Env} {x : PySem.Str} {body : List Stmt} {Q : Flow → Shared → Prop}
theorem for_ins3 {D l : Addr} {a b c : Int} {ta tb tc : Tok} {c0 : Nat} {rest : List (Addr × Obj)} {m₀ : PySem.Str → Option Value} (hh : A.handled = none)
    (F : Fr h₀ env.locals s.heap m₀) (N : News h₀ env.locals s.heap ((D, tupL #[.int a ta, .int b tb, .int c tc]) :: (l, PySem.W.listOf #[] c0) :: rest)) (hl : ∀ p ∈ rest, p.1 ≠ l) (hD : ∀ p ∈ (l, PySem.W.listOf #[] c0) :: rest, p.1 ≠ D)
    (t1 : ∀ h tk own, (∀ p ∈ rest ++ own, p.1 ≠ l) → Fr h₀ env.locals h (fun y => if y = x then some (.int a ta) else m₀ y) → News h₀ env.locals h ((l, PySem.W.listOf #[] c0) :: (rest ++ own)) →
      wpAny (model prog w) A (execs body env) (T3Post h₀ env.locals x m₀ l (rest ++ own) (rowO1 a) { s with heap := h, toks := tk } Q) E { s with heap := h, toks := tk })
    (t2 : ∀ t c' h tk own, (∀ p ∈ rest ++ own, p.1 ≠ l) → Fr h₀ env.locals h (fun y => if y = x then some (.int b tb) else m₀ y) → News h₀ env.locals h ((l, PySem.W.listOf #[.int a t] c') :: (rest ++ own)) →
      wpAny (model prog w) A (execs body env) (T3Post h₀ env.locals x m₀ l (rest ++ own) (rowO2 a b) { s with heap := h, toks := tk } Q) E { s with heap := h, toks := tk })
    (t3 : ∀ t t' c' h tk own, min b a ≤ max b a → (∀ p ∈ rest ++ own, p.1 ≠ l) → Fr h₀ env.locals h (fun y => if y = x then some (.int c tc) else m₀ y) → News h₀ env.locals h ((l, PySem.W.listOf #[.int (min b a) t, .int (max b a) t'] c') :: (rest ++ own)) →
      wpAny (model prog w) A (execs body env) (T3Post h₀ env.locals x m₀ l (rest ++ own) (rowO (s3 a b c)) { s with heap := h, toks := tk } Q) E { s with heap := h, toks := tk })
    (done : ∀ t1 t2 t3 c' (u : PySem.Str → Option Value) h tk, Fr h₀ env.locals h (fun y => if y = x then u y else m₀ y) → News h₀ env.locals h ((l, PySem.W.listOf #[.int (s3 a b c).1 t1, .int (s3 a b c).2.1 t2, .int (s3 a b c).2.2 t3] c') :: rest) → Q .next { s with heap := h, toks := tk }) :
    wpAny (model prog w) A (pyIter (.ref D)) (fun it s₂ => LoopAtV prog w A h₀ env x body Q E it s₂) E s :=
  for_tup3 (rowO1 a) (rowO2 a b) (rowO (s3 a b c)) hh F N hl hD t1 (fun o h tk own ho => by obtain ⟨t, c', rfl⟩ := ho; exact t2 t c' h tk own) (fun o h tk own ho => by obtain ⟨t, t', c', rfl⟩ := ho; exact t3 t t' c' h tk own (by omega))
    (fun o u h tk ho F' N' => by obtain ⟨t1, t2, t3, c', rfl⟩ := ho; exact done t1 t2 t3 c' u h tk F' N')
noncomputable def redJ (news : List (Addr × Obj)) (res : R3T) (i : Nat) (m : PySem.Str → Option Value) (nx : List (Addr × Obj)) : Prop :=
  ∃ l r t1 t2 t3 c', r.1 ≤ r.2.1 ∧ r.2.1 ≤ r.2.2 ∧ runN (64 - i) r = res ∧ m (PySem.Str.ofString "row") = some (.ref l) ∧ nx = (l, PySem.W.listOf #[.int r.1 t1, .int r.2.1 t2, .int r.2.2 t3] c') :: news ∧ ∀ p ∈ news, p.1 < l
theorem s3_sorted (a b c : Int) : (s3 a b c).1 ≤ (s3 a b c).2.1 ∧ (s3 a b c).2.1 ≤ (s3 a b c).2.2 := by
  refine six a b c (fun x y => ?_) (fun x y => ?_) (fun x y => ?_) (fun x y => ?_) (fun x y => ?_) (fun x y => ?_)
  · rw [s3_of x y]; exact ⟨x, y⟩
  · rw [s3_of2 x y]; exact ⟨x, y⟩
  · rw [s3_12 a b c, s3_of x y]; exact ⟨x, y⟩
  · rw [s3_12 a b c, s3_of2 x y]; exact ⟨x, y⟩
  · rw [s3_of3 x y]; exact ⟨x, y⟩
  · rw [s3_12 a b c, s3_of3 x y]; exact ⟨x, y⟩
theorem s3_perm (p q r : Int) : [(s3 p q r).1, (s3 p q r).2.1, (s3 p q r).2.2].Perm [p, q, r] := by
  refine six p q r (fun x y => ?_) (fun x y => ?_) (fun x y => ?_) (fun x y => ?_) (fun x y => ?_) (fun x y => ?_)
  · rw [s3_of x y]
  · rw [s3_of2 x y]; exact (List.Perm.swap q r []).cons p
  · rw [s3_12 p q r, s3_of x y]; exact List.Perm.swap p q [r]
  · rw [s3_12 p q r, s3_of2 x y]; exact ((List.Perm.swap p r []).cons q).trans (List.Perm.swap p q [r])
  · rw [s3_of3 x y]; exact (List.Perm.swap p r [q]).trans ((List.Perm.swap q r []).cons p)
  · rw [s3_12 p q r, s3_of3 x y]; exact ((List.Perm.swap q r [p]).trans ((List.Perm.swap p r []).cons q)).trans (List.Perm.swap p q [r])
theorem red_end {news all own : List (Addr × Obj)} {res : R3T} {i : Nat} {a b c : Int} {t1 t2 t3 : Tok} {c' : Nat} {l : Addr} {L : Addr} {h' : Heap} {tk : Nat} {m' : PySem.Str → Option Value} {s₁ : Shared}
    (F : Fr h₀ L h' m') (N : News h₀ L h' all) (hrow : m' (PySem.Str.ofString "row") = some (.ref l)) (hi : i < 64) (h : runN (64 - i) (a, b, c) = res) (h0 : ¬ 0 ≤ a)
    (hs : ∀ p ∈ (l, PySem.W.listOf #[.int (s3 (-a) (b + 2 * a) (c + 2 * a)).1 t1, .int (s3 (-a) (b + 2 * a) (c + 2 * a)).2.1 t2, .int (s3 (-a) (b + 2 * a) (c + 2 * a)).2.2 t3] c') :: (news ++ own), p ∈ all)
    (hlt : ∀ p ∈ news ++ own, p.1 < l) (off : TbOff own news) :
    TbEnd h₀ L (redJ news res (i + 1)) own s₁ { s₁ with heap := h', toks := tk } := by
  refine ⟨h', tk, m', all, _, rfl, F, N, ?_, ?_, ?_, l, s3 (-a) (b + 2 * a) (c + 2 * a), t1, t2, t3, c', (s3_sorted _ _ _).1, (s3_sorted _ _ _).2, runN_go h h0 hi, hrow, rfl, fun p hp => hlt p (List.mem_append_left _ hp)⟩
  · intro p hp
    rcases List.mem_cons.mp hp with rfl | hp
    · exact hs _ (.head _)
    · exact hs _ (.tail _ (List.mem_append_left _ hp))
  · exact fun p hp => hs _ (.tail _ (List.mem_append_right _ hp))
  · intro p hp q hq
    rcases List.mem_cons.mp hq with rfl | hq
    · exact Nat.ne_of_lt (hlt p (List.mem_append_right _ hp))
    · exact off p hp q hq
theorem red_loop {r l : Addr} {t₀ u₀ v₀ : Tok} {a b c : Int} {t1 t2 t3 : Tok} {c' : Nat} {news all : List (Addr × Obj)} {m₀ : PySem.Str → Option Value} (res : R3T) (hh : A.handled = none) (hx : PySem.Str.ofString "row" ≠ x)
    (hr : IsRange s.heap r 0 64 1 t₀ u₀ v₀) (F : Fr h₀ env.locals s.heap m₀) (hrow : m₀ (PySem.Str.ofString "row") = some (.ref l)) (N : News h₀ env.locals s.heap all)
    (hs : ∀ p ∈ (l, PySem.W.listOf #[.int a t1, .int b t2, .int c t3] c') :: news, p ∈ all) (hab : a ≤ b) (hbc : b ≤ c) (h : runN 64 (a, b, c) = res) (hlt : ∀ p ∈ news, p.1 < l)
    (turn : ∀ (i : Nat) (t : Tok) (m₁ : PySem.Str → Option Value) (l : Addr) (a b c : Int) (t1 t2 t3 : Tok) (c' : Nat) (h : Heap) (tk : Nat) (own : List (Addr × Obj)), i < 64 → TbOff own news → a ≤ b → b ≤ c → runN (64 - i) (a, b, c) = res → (∀ p ∈ news, p.1 < l) → Fr h₀ env.locals h (fun y => if y = x then some (.int (i : Int) t) else if y = PySem.Str.ofString "row" then some (.ref l) else m₁ y) →
      News h₀ env.locals h ((l, PySem.W.listOf #[.int a t1, .int b t2, .int c t3] c') :: (news ++ own)) →
      wpAny (model prog w) A (execs body env) (TbPost h₀ env.locals (redJ news res (i + 1)) own { s with heap := h, toks := tk } Q) E { s with heap := h, toks := tk })
    (done : ∀ (m₁ : PySem.Str → Option Value) (l : Addr) (t1 t2 t3 : Tok) (c' : Nat) (h : Heap) (tk : Nat), (∀ p ∈ news, p.1 < l) → Fr h₀ env.locals h (fun y => if y = PySem.Str.ofString "row" then some (.ref l) else m₁ y) → News h₀ env.locals h ((l, PySem.W.listOf #[.int res.1 t1, .int res.2.1 t2, .int res.2.2 t3] c') :: news) → Q .next { s with heap := h, toks := tk }) :
    wpAny (model prog w) A (pyIter (.ref r)) (fun it s₂ => LoopAtV prog w A h₀ env x body Q E it s₂) E s := by
  refine for_rangeG (n := 64) (redJ news res) hh hr (by decide) (by decide) F (news := (l, PySem.W.listOf #[.int a t1, .int b t2, .int c t3] c') :: news) (fun p hp => N p (hs p hp)) ⟨l, (a, b, c), t1, t2, t3, c', hab, hbc, h, hrow, rfl, hlt⟩ ?_ ?_
  · rintro i t m₁ nx h tk own hi hoff ⟨l, ⟨a, b, c⟩, t1, t2, t3, c', h1, h2, h3, hrow, rfl, hlt⟩ F₁ N₁
    refine turn i t m₁ l a b c t1 t2 t3 c' h tk own hi (fun p hp q hq => hoff p hp q (.tail _ hq)) h1 h2 h3 hlt ?_ N₁
    have e : (fun y => if y = x then some (Value.int (i : Int) t) else if y = PySem.Str.ofString "row" then some (Value.ref l) else m₁ y) = fun y => if y = x then some (Value.int (i : Int) t) else m₁ y := by
      funext y
      by_cases hy : y = x
      · rw [if_pos hy, if_pos hy]
      · rw [if_neg hy, if_neg hy]
        by_cases hz : y = PySem.Str.ofString "row"
        · rw [if_pos hz, hz, hrow]
        · rw [if_neg hz]
    rw [e]; exact F₁
  · rintro m₁ nx h' tk ⟨l, ⟨a, b, c⟩, t1, t2, t3, c', h1, h2, h3, hrow, rfl, hlt⟩ F₁ N₁
    have e3 : res = (a, b, c) := Eq.symm h3
    rw [e3] at done
    refine done m₁ l t1 t2 t3 c' h' tk hlt ?_ N₁
    have e : (fun y => if y = PySem.Str.ofString "row" then some (Value.ref l) else m₁ y) = m₁ := by
      funext y
      by_cases hz : y = PySem.Str.ofString "row"
      · rw [if_pos hz, hz, hrow]
      · rw [if_neg hz]
    rw [e]; exact F₁
end
end Mine
end

/- Red -/
noncomputable section
open PySem PySem.W PySem.Spec PySem.Calls PyProof.Rows

namespace Mine
theorem ltNe {d : Addr} {l : List (Addr × Obj)} (h : AllLt d l) : ∀ p ∈ l, p.1 ≠ d := fun p hp => Nat.ne_of_lt (kst_ltOf h p hp)
local macro_rules | `(tactic| walk_at $s:str) => `(tactic| k_extra $s)
theorem rl2 {prog : Program} {w : World} {A : Around} {E : Value → Shared → Prop} {s : Shared} {h₀ : Heap} {env : Env} {x : PySem.Str} {body : List Stmt} {Q : Flow → Shared → Prop} {r l : Addr} {t₀ u₀ v₀ : Tok} {a b c : Int} {t1 t2 t3 : Tok} {c' : Nat} {d1 d2 : Addr × Obj} {news : List (Addr × Obj)} {m₀ : PySem.Str → Option Value} (hh : A.handled = none) (hx : PySem.Str.ofString "row" ≠ x)
    (hr : IsRange s.heap r 0 64 1 t₀ u₀ v₀) (F : Fr h₀ env.locals s.heap m₀) (hrow : m₀ (PySem.Str.ofString "row") = some (.ref l)) (N : News h₀ env.locals s.heap ((l, PySem.W.listOf #[.int (s3 a b c).1 t1, .int (s3 a b c).2.1 t2, .int (s3 a b c).2.2 t3] c') :: d1 :: d2 :: news))
    (hlt : ∀ p ∈ d1 :: d2 :: news, p.1 < l)
    (turn : ∀ (i : Nat) (t : Tok) (m₁ : PySem.Str → Option Value) (l : Addr) (a' b' c' : Int) (t1 t2 t3 : Tok) (cc : Nat) (h : Heap) (tk : Nat) (own : List (Addr × Obj)), i < 64 → TbOff own news → a' ≤ b' → b' ≤ c' → runN (64 - i) (a', b', c') = runN 64 (s3 a b c) → AllLt l news → Fr h₀ env.locals h (fun y => if y = x then some (.int (i : Int) t) else if y = PySem.Str.ofString "row" then some (.ref l) else m₁ y) →
      News h₀ env.locals h ((l, PySem.W.listOf #[.int a' t1, .int b' t2, .int c' t3] cc) :: (news ++ own)) →
      wpAny (model prog w) A (execs body env) (TbPost h₀ env.locals (redJ news (runN 64 (s3 a b c)) (i + 1)) own { s with heap := h, toks := tk } Q) E { s with heap := h, toks := tk })
    (done : ∀ (m₁ : PySem.Str → Option Value) (l : Addr) (t1 t2 t3 : Tok) (c' : Nat) (h : Heap) (tk : Nat), AllLt l news → Fr h₀ env.locals h (fun y => if y = PySem.Str.ofString "row" then some (.ref l) else m₁ y) → News h₀ env.locals h ((l, PySem.W.listOf #[.int (runN 64 (s3 a b c)).1 t1, .int (runN 64 (s3 a b c)).2.1 t2, .int (runN 64 (s3 a b c)).2.2 t3] c') :: news) → Q .next { s with heap := h, toks := tk }) :
    wpAny (model prog w) A (pyIter (.ref r)) (fun it s₂ => LoopAtV prog w A h₀ env x body Q E it s₂) E s :=
  red_loop (c' := c') (runN 64 (s3 a b c)) hh hx hr F hrow N (fun p hp => by
    rcases List.mem_cons.mp hp with e | hp
    · rw [e]; exact .head _
    · exact .tail _ (.tail _ (.tail _ hp))) (s3_sorted a b c).1 (s3_sorted a b c).2 rfl (fun p hp => hlt p (.tail _ (.tail _ hp)))
    (fun i t m₁ l a' b' c' t1 t2 t3 cc h tk own hi off h1 h2 h3 h4 => turn i t m₁ l a' b' c' t1 t2 t3 cc h tk own hi off h1 h2 h3 (allLt_of h4))
    (fun m₁ l t1 t2 t3 c' h tk h4 => done m₁ l t1 t2 t3 c' h tk (allLt_of h4))
theorem red_end2 {h₀ : Heap} {news own : List (Addr × Obj)} {res : R3T} {i : Nat} {a b c : Int} {t1 t2 t3 : Tok} {c' : Nat} {l l1 : Addr} {o1 : Obj} {L : Addr} {h' : Heap} {tk : Nat} {m' : PySem.Str → Option Value} {s₁ : Shared}
    (F : Fr h₀ L h' m') (N : News h₀ L h' ((l, PySem.W.listOf #[.int (s3 (-a) (b + 2 * a) (c + 2 * a)).1 t1, .int (s3 (-a) (b + 2 * a) (c + 2 * a)).2.1 t2, .int (s3 (-a) (b + 2 * a) (c + 2 * a)).2.2 t3] c') :: (l1, o1) :: (news ++ own))) (hrow : m' (PySem.Str.ofString "row") = some (.ref l)) (hi : i < 64) (h : runN (64 - i) (a, b, c) = res) (h0 : ¬ 0 ≤ a)
    (hlt : AllLt l ((l1, o1) :: (news ++ own))) (off : TbOff own news) :
    TbEnd h₀ L (redJ news res (i + 1)) own s₁ { s₁ with heap := h', toks := tk } :=
  red_end F N hrow hi h h0 (fun p hp => by
    rcases List.mem_cons.mp hp with e | hp
    · rw [e]; exact .head _
    · exact .tail _ (.tail _ hp)) (fun p hp => kst_ltOf hlt.2 p hp) off
theorem num_word : ∀ n : Nat, numOf (KBw.bInts (wordOf n).toArray) = (n : Int) := by
  intro n
  induction n using Nat.strongRecOn with
  | ind n ih =>
    rw [wordOf]
    split
    · rename_i h; subst h; rfl
    · rename_i h
      have := ih (n / 16) (by omega)
      have e : KBw.bInts (wordOf (n / 16) ++ [(65 + n % 16).toUInt8]).toArray = KBw.bInts (wordOf (n / 16)).toArray ++ [((65 + n % 16 : Nat) : Int)] := by
        simp [KBw.bInts]
        omega
      rw [e, ← numOf_snoc this.symm]
      omega
noncomputable def redOut (x : Int × Int × Int) : R3T := runN 64 (s3 (-(x.2.1.natAbs : Int)) ((x.1.natAbs : Int) + (x.2.1.natAbs : Int)) ((x.2.2.natAbs : Int) + (x.2.1.natAbs : Int)))
noncomputable def redRes (news : List (Addr × Obj)) (r : R3T) (v : Value) (nx : List (Addr × Obj)) : Prop := ∃ l t1 t2 t3 c', v = .ref l ∧ (∀ p ∈ news, p.1 < l) ∧ nx = (l, PySem.W.listOf #[.int r.1 t1, .int r.2.1 t2, .int r.2.2 t3] c') :: news
theorem redRes_brk {news : List (Addr × Obj)} {l : Addr} {a b c : Int} {t1 t2 t3 : Tok} {c' i : Nat} {res : R3T} (h : runN (64 - i) (a, b, c) = res) (h0 : 0 ≤ a) (hlt : AllLt l news) :
    redRes news res (.ref l) ((l, PySem.W.listOf #[.int a t1, .int b t2, .int c t3] c') :: news) := by
  have e := runN_stop h h0
  subst e
  exact ⟨l, t1, t2, t3, c', rfl, fun p hp => kst_ltOf hlt p hp, rfl⟩
theorem redRes_done {news : List (Addr × Obj)} {l : Addr} {t1 t2 t3 : Tok} {c' : Nat} {res : R3T} (hlt : AllLt l news) :
    redRes news res (.ref l) ((l, PySem.W.listOf #[.int res.1 t1, .int res.2.1 t2, .int res.2.2 t3] c') :: news) := ⟨l, t1, t2, t3, c', rfl, fun p hp => kst_ltOf hlt p hp, rfl⟩
theorem drop_own {h₀ h : Heap} {L : Addr} {q : Addr × Obj} {news own : List (Addr × Obj)} (N : News h₀ L h (q :: (news ++ own))) : News h₀ L h (q :: news) := fun p hp => N p (by
  rcases List.mem_cons.mp hp with e | hp
  · rw [e]; exact .head _
  · exact .tail _ (List.mem_append_left _ hp))
theorem red3_spec (w : World) (mean : ExcName → Option Value) (mg mb : PySem.Str → Option Value) (news : List (Addr × Obj)) (x : Int × Int × Int) (tb : Tok)
    (h1 : x.1.natAbs < 2 ^ 60) (h2 : x.2.1.natAbs < 2 ^ 60) (h3 : x.2.2.natAbs < 2 ^ 60) (n1 : x.1.natAbs ≠ 0) (n2 : x.2.1.natAbs ≠ 0) (n3 : x.2.2.natAbs ≠ 0) :
    Spec w mean mg mb 4 106 news [.bytes (lineOf x) tb] (redRes news (redOut x)) := by
  unfold Spec; k_fill; w_top off
  intro dp un gd cn cs a ccd cl outer A₀ base h₀ L m s Q E B F X N T hk hd hu hret
  k_with_none
  k_with "call ref" => (k_here; k_dflt (refine' Spec.use (parse3_spec _ _ _ _ _ _ _ ?wh1 ?wh2 ?wh3 ?wn1 ?wn2 ?wn3) ?wk1 ?wk2 ?wk3 ?wk4 ?wk5 ?wkK ?wkd ?wku ?_; (case wk1 => k_asm); (case wk2 => k_asm); (case wk3 => k_asm); (case wk4 => k_asm); (case wk5 => k_asm); (case wkK => first | exact rfl | assumption); (case wkd => ktr_room); (case wku => ktr_units); (case wh1 => assumption); (case wh2 => assumption); (case wh3 => assumption); (case wn1 => assumption); (case wn2 => assumption); (case wn3 => assumption)); intro r' nx' h' tk' F' N' ho'; obtain ⟨u', ta', tc', td', e1', lt', e2'⟩ := ho'; subst e1' e2'; (try dsimp only))
  k_with "call ref" => (k_here; k_dflt (refine' Spec.use (num_spec _ _ _ _ _ _ _) ?wk1 ?wk2 ?wk3 ?wk4 ?wk5 ?wkK ?wkd ?wku ?_; (case wk1 => k_asm); (case wk2 => k_asm); (case wk3 => k_asm); (case wk4 => k_asm); (case wk5 => k_asm); (case wkK => first | exact rfl | assumption); (case wkd => ktr_room); (case wku => ktr_units)); intro r' nx' h' tk' F' N' ho'; obtain ⟨e1', t', e2'⟩ := ho'; subst e1' e2'; (try dsimp only))
  k_with "call ref" => (k_here; k_dflt (refine' Spec.use (ins0_spec _ _ _ _ _ _ _ ?whb _ _) ?wk1 ?wk2 ?wk3 ?wk4 ?wk5 ?wkK ?wkd ?wku ?_; (case wk1 => k_asm); (case wk2 => k_asm); (case wk3 => k_asm); (case wk4 => k_asm); (case wk5 => k_asm); (case wkK => first | exact rfl | assumption); (case wkd => ktr_room); (case wku => ktr_units); (case whb => assumption)); intro r' nx' h' tk' F' N' ho'; obtain ⟨e1', c1', t1', e2'⟩ := ho'; subst e1' e2'; (try dsimp only))
  k_with "call ref" => (k_here; k_dflt (refine' Spec.use (ins1_spec _ _ _ _ _ _ _ _ _ ?whb _ _) ?wk1 ?wk2 ?wk3 ?wk4 ?wk5 ?wkK ?wkd ?wku ?_; (case wk1 => k_asm); (case wk2 => k_asm); (case wk3 => k_asm); (case wk4 => k_asm); (case wk5 => k_asm); (case wkK => first | exact rfl | assumption); (case wkd => ktr_room); (case wku => ktr_units); (case whb => assumption)); intro r' nx' h' tk' F' N' ho'; obtain ⟨e1', c1', t1', t2', e2'⟩ := ho'; subst e1' e2'; (try dsimp only))
  k_with "call ref" => (k_here; k_dflt (refine' Spec.use (ins2_spec _ _ _ _ _ _ _ _ _ _ _ ?whb _ _ ?whyz) ?wk1 ?wk2 ?wk3 ?wk4 ?wk5 ?wkK ?wkd ?wku ?_; (case wk1 => k_asm); (case wk2 => k_asm); (case wk3 => k_asm); (case wk4 => k_asm); (case wk5 => k_asm); (case wkK => first | exact rfl | assumption); (case wkd => ktr_room); (case wku => ktr_units); (case whb => assumption); (case whyz => assumption)); intro r' nx' h' tk' F' N' ho'; obtain ⟨e1', c1', t1', t2', t3', e2'⟩ := ho'; subst e1' e2'; (try dsimp only))
  k_with "exec Assign cons ListComp" => (k_here; (with_reducible show wpAny _ _ (exec (Stmt.Assign _ (Expr.ListComp _ (⟨_, Expr.Call _ _ _ _, _, _⟩ :: _) _ _) _) _) _ _ _); k_dflt (refine assign_comp_tup (by k_asm) (by rfl) (by with_unfolding_all rfl) (by rfl) (by decide) (by rfl) (by decide) (by rfl) (by rfl) (by rfl) ?_ (by intro _; rfl)))
  k_with "TupSrc" => (k_here; k_dflt (refine' TupSrc.mk (by rfl) ?wF ?wN ?wm ?wz ?_; (case wF => k_asm); (case wN => k_asm); (case wm => k_mem); (case wz => first | size_fits | exact Nat.le_of_ble_eq_true rfl)); intro g'; lcg_lit)
  k_with "CompEnd" => (k_dflt (refine' LCg.CompEnd.intro ?wF ?wN _ (fun _ hp => hp) ?woff ?whS ?_; (case wF => k_asm); (case wN => k_asm); (case woff => first | assumption | (simp only [LCg.Off3, and_true]; assumption)); (case whS => exact List.Mem.head _)); (try dsimp only))
  k_with "exec For Name Tuple cons nil" => (k_here; (rename Fr _ _ _ _ => lF'); (with_unfolding_all refine' For_invVF lF' ?wk1 ?wk2 ?_; (case wk1 => exact rfl); (case wk2 => exact rfl); k_whole))
  k_with "pyIter ref" => (k_here; (with_reducible show wpAny _ _ (pyIter (Value.ref _)) (fun it s₂ => LoopAtV _ _ _ _ _ _ _ _ _ it s₂) _ _); k_dflt (refine' for_ins3 (by rfl) ?wF ?wN ?whl ?whD ?_ ?_ ?_ ?_; (case wF => k_asm); (case wN => k_asm); (case whl => exact ltNe (by assumption)); (case whD => exact ltNe (by assumption))); intro h' tk' own' ap' F' N'; rotate_left; intro t' c' h' tk' own' ap' F' N'; rotate_left; intro t' t2' c' h' tk' own' le' ap' F' N'; rotate_left; intro t1' t2' t3' c' u' h' tk' F' N'; rotate_left)
  k_with "T3Post" => (dsimp only [T3Post])
  k_with "T3End" => (k_dflt (refine' T3End.intro ?wF ?wm ?wN ?wP; (case wF => k_asm); (case wN => k_asm); (case wm => (intro z hz; exact if_neg hz)); (case wP => first | exact ⟨_, _, rfl⟩ | exact ⟨_, _, _, rfl⟩ | exact ⟨_, _, _, _, rfl⟩)))
  k_with "pyIter ref" => (k_here; (with_reducible show wpAny _ _ (pyIter (Value.ref _)) (fun it s₂ => LoopAtV _ _ _ _ _ _ _ _ _ it s₂) _ _); k_dflt (refine' rl2 (by rfl) ?whx ?whr ?wF ?wrow ?wN ?whlt ?_ ?_; (case whr => assumption); (case whx => decide); (case wF => k_asm); (case wrow => rfl); (case wN => k_asm); (case whlt => exact fun p hp => kst_ltOf (by assumption) p hp)); intro i' t' m' l' a' b' c' t1' t2' t3' cc' h' tk' own' hi' off' le1' le2' rn' l1 F' N'; rotate_left; intro m' l' t1' t2' t3' cc' h' tk' l1 F' N'; rotate_left)
  k_with "TbEnd" => (k_dflt (refine' red_end2 ?wF ?wN ?wrow ?whi ?wh ?wh0 ?whlt ?woff; (case wF => k_asm); (case wN => k_asm); (case wrow => rfl); (case whi => assumption); (case wh => assumption); (case wh0 => assumption); (case whlt => assumption); (case woff => assumption)))
  have eR : redOut x = runN 64 (s3 (-numOf (KBw.bInts (wordOf x.2.1.natAbs).toArray)) (numOf (KBw.bInts (wordOf x.1.natAbs).toArray) + numOf (KBw.bInts (wordOf x.2.1.natAbs).toArray)) (numOf (KBw.bInts (wordOf x.2.2.natAbs).toArray) + numOf (KBw.bInts (wordOf x.2.1.natAbs).toArray))) := by
    rw [num_word, num_word, num_word]; rfl
  rw [eR] at hret
  refine wpAny_call ?_
  k_dflt (refine' code_def ?k1 ?k2 ?k3 ?k4 ?k5 ?kA ?kF ?kK ?k6 ?k7 ?k8 ?k9 ?kB ?_ ?c2 ?c3 ?c4 ?c5; (case kA => exact rfl); (case kF => exact rfl); (case kK => assumption); (case k1 => k_asm); (case k2 => k_asm); (case k3 => k_asm); (case k4 => k_asm); (case k5 => k_asm); (case k6 => k_is); (case k7 => k_is); (case k8 => ktr_room); (case k9 => (refine' kp_binds ?kx ?ke; (case kx => k_in); (case ke => exact fun _ => rfl))); (case c5 => decide); (case kB => exact locs rfl); (case c2 => exact rfl); (case c3 => exact rfl); (case c4 => exact rfl); k_whole; intro g' L' h' FG' F' N' B' X' T'; (try dsimp only); (try k_lift B'); (try k_fold))
  k_steps
  · rename runN _ _ = _ => hrn
    exact hret _ _ _ _ (by assumption) (drop_own (by assumption)) (redRes_brk hrn (by assumption) (by assumption))
  · exact hret _ _ _ _ (by assumption) (by assumption) (redRes_done (by assumption))
end Mine
end

/- Red2 -/
noncomputable section
open PySem PySem.W PySem.Spec PySem.Calls PyProof.Rows

namespace Mine
local macro_rules | `(tactic| walk_at $s:str) => `(tactic| k_extra $s)
theorem rl3 {prog : Program} {w : World} {A : Around} {E : Value → Shared → Prop} {s : Shared} {h₀ : Heap} {env : Env} {x : PySem.Str} {body : List Stmt} {Q : Flow → Shared → Prop} {r l : Addr} {t₀ u₀ v₀ : Tok} {a b c : Int} {t1 t2 t3 : Tok} {c' : Nat} {d1 d2 d3 : Addr × Obj} {news : List (Addr × Obj)} {m₀ : PySem.Str → Option Value} (hh : A.handled = none) (hx : PySem.Str.ofString "row" ≠ x)
    (hr : IsRange s.heap r 0 64 1 t₀ u₀ v₀) (F : Fr h₀ env.locals s.heap m₀) (hrow : m₀ (PySem.Str.ofString "row") = some (.ref l)) (N : News h₀ env.locals s.heap ((l, PySem.W.listOf #[.int (s3 a b c).1 t1, .int (s3 a b c).2.1 t2, .int (s3 a b c).2.2 t3] c') :: d1 :: d2 :: d3 :: news))
    (hlt : ∀ p ∈ d1 :: d2 :: d3 :: news, p.1 < l)
    (turn : ∀ (i : Nat) (t : Tok) (m₁ : PySem.Str → Option Value) (l : Addr) (a' b' c' : Int) (t1 t2 t3 : Tok) (cc : Nat) (h : Heap) (tk : Nat) (own : List (Addr × Obj)), i < 64 → TbOff own news → a' ≤ b' → b' ≤ c' → runN (64 - i) (a', b', c') = runN 64 (s3 a b c) → AllLt l news → Fr h₀ env.locals h (fun y => if y = x then some (.int (i : Int) t) else if y = PySem.Str.ofString "row" then some (.ref l) else m₁ y) →
      News h₀ env.locals h ((l, PySem.W.listOf #[.int a' t1, .int b' t2, .int c' t3] cc) :: (news ++ own)) →
      wpAny (model prog w) A (execs body env) (TbPost h₀ env.locals (redJ news (runN 64 (s3 a b c)) (i + 1)) own { s with heap := h, toks := tk } Q) E { s with heap := h, toks := tk })
    (done : ∀ (m₁ : PySem.Str → Option Value) (l : Addr) (t1 t2 t3 : Tok) (c' : Nat) (h : Heap) (tk : Nat), AllLt l news → Fr h₀ env.locals h (fun y => if y = PySem.Str.ofString "row" then some (.ref l) else m₁ y) → News h₀ env.locals h ((l, PySem.W.listOf #[.int (runN 64 (s3 a b c)).1 t1, .int (runN 64 (s3 a b c)).2.1 t2, .int (runN 64 (s3 a b c)).2.2 t3] c') :: news) → Q .next { s with heap := h, toks := tk }) :
    wpAny (model prog w) A (pyIter (.ref r)) (fun it s₂ => LoopAtV prog w A h₀ env x body Q E it s₂) E s :=
  red_loop (c' := c') (runN 64 (s3 a b c)) hh hx hr F hrow N (fun p hp => by
    rcases List.mem_cons.mp hp with e | hp
    · rw [e]; exact .head _
    · exact .tail _ (.tail _ (.tail _ (.tail _ hp)))) (s3_sorted a b c).1 (s3_sorted a b c).2 rfl (fun p hp => hlt p (.tail _ (.tail _ (.tail _ hp))))
    (fun i t m₁ l a' b' c' t1 t2 t3 cc h tk own hi off h1 h2 h3 h4 => turn i t m₁ l a' b' c' t1 t2 t3 cc h tk own hi off h1 h2 h3 (allLt_of h4))
    (fun m₁ l t1 t2 t3 c' h tk h4 => done m₁ l t1 t2 t3 c' h tk (allLt_of h4))
theorem red2_spec (w : World) (mean : ExcName → Option Value) (mg mb : PySem.Str → Option Value) (news : List (Addr × Obj)) (x : Int × Int × Int) (tb : Tok)
    (h1 : x.1.natAbs < 2 ^ 60) (h2 : x.2.1.natAbs < 2 ^ 60) (h3 : x.2.2.natAbs < 2 ^ 60) (n1 : x.1.natAbs ≠ 0) (n2 : x.2.1.natAbs = 0) (n3 : x.2.2.natAbs ≠ 0) :
    Spec w mean mg mb 4 106 news [.bytes (lineOf x) tb] (redRes news (redOut x)) := by
  unfold Spec; k_fill; w_top off
  intro dp un gd cn cs a ccd cl outer A₀ base h₀ L m s Q E B F X N T hk hd hu hret
  k_with_none
  k_with "call ref" => (k_here; k_dflt (refine' Spec.use (parse2_spec _ _ _ _ _ _ _ ?wh1 ?wh2 ?wh3 ?wn1 ?wn2 ?wn3) ?wk1 ?wk2 ?wk3 ?wk4 ?wk5 ?wkK ?wkd ?wku ?_; (case wk1 => k_asm); (case wk2 => k_asm); (case wk3 => k_asm); (case wk4 => k_asm); (case wk5 => k_asm); (case wkK => first | exact rfl | assumption); (case wkd => ktr_room); (case wku => ktr_units); (case wh1 => assumption); (case wh2 => assumption); (case wh3 => assumption); (case wn1 => assumption); (case wn2 => assumption); (case wn3 => assumption)); intro r' nx' h' tk' F' N' ho'; obtain ⟨u', ta', td', e1', lt', e2'⟩ := ho'; subst e1' e2'; (try dsimp only))
  k_with "call ref" => (k_here; k_dflt (refine' Spec.use (num_spec _ _ _ _ _ _ _) ?wk1 ?wk2 ?wk3 ?wk4 ?wk5 ?wkK ?wkd ?wku ?_; (case wk1 => k_asm); (case wk2 => k_asm); (case wk3 => k_asm); (case wk4 => k_asm); (case wk5 => k_asm); (case wkK => first | exact rfl | assumption); (case wkd => ktr_room); (case wku => ktr_units)); intro r' nx' h' tk' F' N' ho'; obtain ⟨e1', t', e2'⟩ := ho'; subst e1' e2'; (try dsimp only))
  k_with "call ref" => (k_here; k_dflt (refine' Spec.use (ins0_spec _ _ _ _ _ _ _ ?whb _ _) ?wk1 ?wk2 ?wk3 ?wk4 ?wk5 ?wkK ?wkd ?wku ?_; (case wk1 => k_asm); (case wk2 => k_asm); (case wk3 => k_asm); (case wk4 => k_asm); (case wk5 => k_asm); (case wkK => first | exact rfl | assumption); (case wkd => ktr_room); (case wku => ktr_units); (case whb => assumption)); intro r' nx' h' tk' F' N' ho'; obtain ⟨e1', c1', t1', e2'⟩ := ho'; subst e1' e2'; (try dsimp only))
  k_with "call ref" => (k_here; k_dflt (refine' Spec.use (ins1_spec _ _ _ _ _ _ _ _ _ ?whb _ _) ?wk1 ?wk2 ?wk3 ?wk4 ?wk5 ?wkK ?wkd ?wku ?_; (case wk1 => k_asm); (case wk2 => k_asm); (case wk3 => k_asm); (case wk4 => k_asm); (case wk5 => k_asm); (case wkK => first | exact rfl | assumption); (case wkd => ktr_room); (case wku => ktr_units); (case whb => assumption)); intro r' nx' h' tk' F' N' ho'; obtain ⟨e1', c1', t1', t2', e2'⟩ := ho'; subst e1' e2'; (try dsimp only))
  k_with "call ref" => (k_here; k_dflt (refine' Spec.use (ins2_spec _ _ _ _ _ _ _ _ _ _ _ ?whb _ _ ?whyz) ?wk1 ?wk2 ?wk3 ?wk4 ?wk5 ?wkK ?wkd ?wku ?_; (case wk1 => k_asm); (case wk2 => k_asm); (case wk3 => k_asm); (case wk4 => k_asm); (case wk5 => k_asm); (case wkK => first | exact rfl | assumption); (case wkd => ktr_room); (case wku => ktr_units); (case whb => assumption); (case whyz => assumption)); intro r' nx' h' tk' F' N' ho'; obtain ⟨e1', c1', t1', t2', t3', e2'⟩ := ho'; subst e1' e2'; (try dsimp only))
  k_with "exec Assign cons ListComp" => (k_here; (with_reducible show wpAny _ _ (exec (Stmt.Assign _ (Expr.ListComp _ (⟨_, Expr.Call _ _ _ _, _, _⟩ :: _) _ _) _) _) _ _ _); k_dflt (refine assign_comp_tup (by k_asm) (by rfl) (by with_unfolding_all rfl) (by rfl) (by decide) (by rfl) (by decide) (by rfl) (by rfl) (by rfl) ?_ (by intro _; rfl)))
  k_with "TupSrc" => (k_here; k_dflt (refine' TupSrc.mk (by rfl) ?wF ?wN ?wm ?wz ?_; (case wF => k_asm); (case wN => k_asm); (case wm => k_mem); (case wz => first | size_fits | exact Nat.le_of_ble_eq_true rfl)); intro g'; lcg_lit)
  k_with "CompEnd" => (k_dflt (refine' LCg.CompEnd.intro ?wF ?wN _ (fun _ hp => hp) ?woff ?whS ?_; (case wF => k_asm); (case wN => k_asm); (case woff => first | assumption | (simp only [LCg.Off3, and_true]; assumption)); (case whS => exact List.Mem.head _)); (try dsimp only))
  k_with "exec For Name Tuple cons nil" => (k_here; (rename Fr _ _ _ _ => lF'); (with_unfolding_all refine' For_invVF lF' ?wk1 ?wk2 ?_; (case wk1 => exact rfl); (case wk2 => exact rfl); k_whole))
  k_with "pyIter ref" => (k_here; (with_reducible show wpAny _ _ (pyIter (Value.ref _)) (fun it s₂ => LoopAtV _ _ _ _ _ _ _ _ _ it s₂) _ _); k_dflt (refine' for_ins3 (by rfl) ?wF ?wN ?whl ?whD ?_ ?_ ?_ ?_; (case wF => k_asm); (case wN => k_asm); (case whl => exact ltNe (by assumption)); (case whD => exact ltNe (by assumption))); intro h' tk' own' ap' F' N'; rotate_left; intro t' c' h' tk' own' ap' F' N'; rotate_left; intro t' t2' c' h' tk' own' le' ap' F' N'; rotate_left; intro t1' t2' t3' c' u' h' tk' F' N'; rotate_left)
  k_with "T3Post" => (dsimp only [T3Post])
  k_with "T3End" => (k_dflt (refine' T3End.intro ?wF ?wm ?wN ?wP; (case wF => k_asm); (case wN => k_asm); (case wm => (intro z hz; exact if_neg hz)); (case wP => first | exact ⟨_, _, rfl⟩ | exact ⟨_, _, _, rfl⟩ | exact ⟨_, _, _, _, rfl⟩)))
  k_with "pyIter ref" => (k_here; (with_reducible show wpAny _ _ (pyIter (Value.ref _)) (fun it s₂ => LoopAtV _ _ _ _ _ _ _ _ _ it s₂) _ _); k_dflt (refine' rl3 (by rfl) ?whx ?whr ?wF ?wrow ?wN ?whlt ?_ ?_; (case whr => assumption); (case whx => decide); (case wF => k_asm); (case wrow => rfl); (case wN => k_asm); (case whlt => exact fun p hp => kst_ltOf (by assumption) p hp)); intro i' t' m' l' a' b' c' t1' t2' t3' cc' h' tk' own' hi' off' le1' le2' rn' l1 F' N'; rotate_left; intro m' l' t1' t2' t3' cc' h' tk' l1 F' N'; rotate_left)
  k_with "TbEnd" => (k_dflt (refine' red_end2 ?wF ?wN ?wrow ?whi ?wh ?wh0 ?whlt ?woff; (case wF => k_asm); (case wN => k_asm); (case wrow => rfl); (case whi => assumption); (case wh => assumption); (case wh0 => assumption); (case whlt => assumption); (case woff => assumption)))
  have eR : redOut x = runN 64 (s3 (-0) (numOf (KBw.bInts (wordOf x.1.natAbs).toArray) + 0) (numOf (KBw.bInts (wordOf x.2.2.natAbs).toArray) + 0)) := by
    rw [num_word, num_word]; unfold redOut; rw [n2]; rfl
  rw [eR] at hret
  refine wpAny_call ?_
  k_dflt (refine' code_def ?k1 ?k2 ?k3 ?k4 ?k5 ?kA ?kF ?kK ?k6 ?k7 ?k8 ?k9 ?kB ?_ ?c2 ?c3 ?c4 ?c5; (case kA => exact rfl); (case kF => exact rfl); (case kK => assumption); (case k1 => k_asm); (case k2 => k_asm); (case k3 => k_asm); (case k4 => k_asm); (case k5 => k_asm); (case k6 => k_is); (case k7 => k_is); (case k8 => ktr_room); (case k9 => (refine' kp_binds ?kx ?ke; (case kx => k_in); (case ke => exact fun _ => rfl))); (case c5 => decide); (case kB => exact locs rfl); (case c2 => exact rfl); (case c3 => exact rfl); (case c4 => exact rfl); k_whole; intro g' L' h' FG' F' N' B' X' T'; (try dsimp only); (try k_lift B'); (try k_fold))
  k_steps
  · rename runN _ _ = _ => hrn
    exact hret _ _ _ _ (by assumption) (drop_own (by assumption)) (redRes_brk hrn (by assumption) (by assumption))
  · exact hret _ _ _ _ (by assumption) (by assumption) (redRes_done (by assumption))
end Mine
end

/- Parts -/
noncomputable section
open PySem PySem.W PySem.Spec PySem.Calls PyProof.Rows

namespace Mine
local macro_rules | `(tactic| walk_at $s:str) => `(tactic| k_extra $s)
noncomputable def partsOf (n : Int) : Int × Int × Int :=
  if 1 < ((List.count 0 [n.fmod 5, (n.fdiv 5).fmod 5, (n.fdiv 25).fmod 5] : Nat) : Int) then (n.fmod 5 + 1, (n.fdiv 5).fmod 5 + 1, (n.fdiv 25).fmod 5 + 1) else (n.fmod 5, (n.fdiv 5).fmod 5, (n.fdiv 25).fmod 5)
noncomputable def listRes (news : List (Addr × Obj)) (r : Int × Int × Int) (v : Value) (nx : List (Addr × Obj)) : Prop := ∃ l t1 t2 t3 c', v = .ref l ∧ (∀ p ∈ news, p.1 ≠ l) ∧ nx = (l, PySem.W.listOf #[.int r.1 t1, .int r.2.1 t2, .int r.2.2 t3] c') :: news
theorem off1_ne {d : Addr} : ∀ {l : List (Addr × Obj)}, LCg.Off1 d l → ∀ p ∈ l, p.1 ≠ d := by
  intro l
  induction l with
  | nil => intro _ p hp; cases hp
  | cons q l ih =>
    intro h p hp
    rcases List.mem_cons.mp hp with e | hp
    · subst e; exact h.1
    · exact ih h.2 p hp
theorem drop_2nd {h₀ h : Heap} {L : Addr} {q q' : Addr × Obj} {news : List (Addr × Obj)} (N : News h₀ L h (q :: q' :: news)) : News h₀ L h (q :: news) := fun p hp => N p (by
  rcases List.mem_cons.mp hp with e | hp
  · rw [e]; exact .head _
  · exact .tail _ (.tail _ hp))
theorem parts_spec (w : World) (mean : ExcName → Option Value) (mg mb : PySem.Str → Option Value) (news : List (Addr × Obj)) (n : Int) (tn : Tok) :
    Spec w mean mg mb 1 87 news [.int n tn] (listRes news (partsOf n)) := by
  unfold Spec; k_fill; w_top off
  intro dp un gd cn cs a ccd cl outer A₀ base h₀ L m s Q E B F X N T hk hd hu hret
  k_with_none
  k_with "CompEnd" => (k_dflt (refine' PyProof.Rows.LCg.CompEnd.intro ?wF ?wN _ (fun _ hp => hp) ?woff ?whS ?_; (case wF => k_asm); (case wN => k_asm); (case woff => first | assumption | (simp only [PyProof.Rows.LCg.Off3, and_true]; assumption)); (case whS => exact .inr ⟨_, List.Mem.head _, rfl, _, rfl⟩)); (try dsimp only))
  refine wpAny_call ?_
  k_dflt (refine' code_def ?k1 ?k2 ?k3 ?k4 ?k5 ?kA ?kF ?kK ?k6 ?k7 ?k8 ?k9 ?kB ?_ ?c2 ?c3 ?c4 ?c5; (case kA => exact rfl); (case kF => exact rfl); (case kK => assumption); (case k1 => k_asm); (case k2 => k_asm); (case k3 => k_asm); (case k4 => k_asm); (case k5 => k_asm); (case k6 => k_is); (case k7 => k_is); (case k8 => ktr_room); (case k9 => (refine' kp_binds ?kx ?ke; (case kx => k_in); (case ke => exact fun _ => rfl))); (case c5 => decide); (case kB => exact locs rfl); (case c2 => exact rfl); (case c3 => exact rfl); (case c4 => exact rfl); k_whole; intro g' L' h' FG' F' N' B' X' T'; (try dsimp only); (try k_lift B'); (try k_fold))
  k_steps
  · rename _ ≠ _ ∧ LCg.Off1 _ _ => ho
    refine hret _ _ _ _ (by assumption) (drop_2nd (by assumption)) ?_
    unfold partsOf
    rw [if_pos (by assumption)]
    exact ⟨_, _, _, _, _, rfl, off1_ne ho.2, rfl⟩
  · rename ∀ (p : Addr × Obj), p ∈ news → p.fst < _ => hlt
    refine hret _ _ _ _ (by assumption) (by assumption) ?_
    unfold partsOf
    rw [if_neg (by assumption)]
    exact ⟨_, _, _, _, _, rfl, fun p hp => Nat.ne_of_lt (hlt p hp), rfl⟩
end Mine
end

/- Tk -/
noncomputable section
open PySem PySem.W PySem.Spec PySem.Calls PyProof.Rows

namespace Mine
theorem runs_toks {M : Model} {Γ : PySem.Ctx} {p : Pos} {t : Sem Fin} {fs : List Frame} {s : Shared} {e : End} {s' : Shared} (h : Runs M Γ p t fs s e s') : s.toks ≤ s'.toks := by
  induction h <;> (try simp only [Shared.setGen] at *) <;> omega
theorem wakes_toks {M : Model} {Γ : PySem.Ctx} {p : Pos} {g : Nat} {r : Resume} {s : Shared} {res : GenResult} {s' : Shared} (h : Wakes M Γ p g r s res s') : s.toks ≤ s'.toks := by
  unfold Wakes at h
  split at h
  · exact h.elim
  · split at h
    · obtain ⟨e, s₁, hr, _, _, rfl⟩ := h
      exact (show (s.setGen g .running).toks ≤ s₁.toks from runs_toks hr)
    · rw [h.2]; exact Nat.le_refl _
    · rw [h.2]; exact Nat.le_refl _
  · obtain ⟨e, s₁, hr, _, _, rfl⟩ := h
    exact (show (s.setGen g .running).toks ≤ s₁.toks from runs_toks hr)
  · rw [h.2]; exact Nat.le_refl _
  · rw [h.2]; exact Nat.le_refl _
theorem wp_toks {α : Type} {M : Model} {Γ : PySem.Ctx} {n : Nat} (t : Sem α) : ∀ {Q : α → Pos → Shared → Prop} {E : Value → Pos → Shared → Prop} {p : Pos} {s : Shared}, n ≤ s.toks → Sem.wp M Γ t (fun a p' s' => n ≤ s'.toks → Q a p' s') (fun e p' s' => n ≤ s'.toks → E e p' s') p s → Sem.wp M Γ t Q E p s := by
  induction t with
  | pure a => intro Q E p s hn h; rw [Sem.wp] at h ⊢; exact h hn
  | raise e => intro Q E p s hn h; rw [Sem.wp] at h ⊢; exact h hn
  | unsupported w => intro Q E p s hn h; rw [Sem.wp] at h ⊢; exact h
  | finish e => intro Q E p s hn h; rw [Sem.wp] at h ⊢; exact h
  | rule tag k ih => intro Q E p s hn h; rw [Sem.wp] at h ⊢; exact ih _ hn h
  | «at» p' k ih => intro Q E p s hn h; rw [Sem.wp] at h ⊢; exact ih _ hn h
  | load a part k ih => intro Q E p s hn h; rw [Sem.wp] at h ⊢; obtain ⟨o, ho, h⟩ := h; exact ⟨o, ho, ih _ hn h⟩
  | update a part f k ih => intro Q E p s hn h; rw [Sem.wp] at h ⊢; exact ⟨h.1, ih _ hn h.2⟩
  | loadIfAlive a k ih => intro Q E p s hn h; rw [Sem.wp] at h ⊢; exact ih _ hn h
  | point l k ih => intro Q E p s hn h; rw [Sem.wp] at h ⊢; exact ih _ hn h
  | register a k ih => intro Q E p s hn h; rw [Sem.wp] at h ⊢; exact h
  | alloc o k ih => intro Q E p s hn h; rw [Sem.wp] at h ⊢; exact ih _ hn h
  | fresh k ih => intro Q E p s hn h; rw [Sem.wp] at h ⊢; exact ih _ (Nat.le_succ_of_le hn) h
  | ask k ih => intro Q E p s hn h; rw [Sem.wp] at h ⊢; exact ih _ hn h
  | choose src n k ih => intro Q E p s hn h; rw [Sem.wp] at h ⊢; exact ⟨h.1, ih _ hn h.2⟩
  | os q l k ih => intro Q E p s hn h; rw [Sem.wp] at h ⊢; exact ih _ hn h
  | call c hd g l k ih =>
    intro Q E p s hn h; rw [Sem.wp] at h ⊢
    obtain ⟨r, s', hr, h⟩ := h
    exact ⟨r, s', hr, ih _ (Nat.le_trans hn (runs_toks hr)) h⟩
  | handled own k ih => intro Q E p s hn h; rw [Sem.wp] at h ⊢; exact ih _ hn h
  | genState g k ih => intro Q E p s hn h; rw [Sem.wp] at h ⊢; obtain ⟨o, ho, h⟩ := h; exact ⟨o, ho, ih _ hn h⟩
  | newGen c k ih => intro Q E p s hn h; rw [Sem.wp] at h ⊢; exact ih _ hn h
  | resume g r l k ih =>
    intro Q E p s hn h; rw [Sem.wp] at h ⊢
    obtain ⟨r, s', hr, h⟩ := h
    exact ⟨r, s', hr, ih _ (Nat.le_trans hn (wakes_toks hr)) h⟩
  | yield v g l k ih => intro Q E p s hn h; rw [Sem.wp] at h ⊢; exact h
  | stack k ih => intro Q E p s hn h; rw [Sem.wp] at h ⊢; exact ih _ hn h
  | fork c k ih => intro Q E p s hn h; rw [Sem.wp] at h ⊢; exact h
  | thread k ih => intro Q E p s hn h; rw [Sem.wp] at h ⊢; exact ih _ hn h
  | await a f d l k ih => intro Q E p s hn h; rw [Sem.wp] at h ⊢; exact h
/-- tokens only grow -/
theorem tk_le {α : Type} {M : Model} {A : Around} {x : Sem α} {Q : α → Shared → Prop} {E : Value → Shared → Prop} {s : Shared} (h : wpAny M A x (fun a s' => s.toks ≤ s'.toks → Q a s') E s) : wpAny M A x Q E s := fun Γ p hΓ =>
  wp_toks x (Nat.le_refl _) (Sem.wp_mono M Γ _ (fun _ _ _ z => z) (fun e _ s' (z : E e s') (_ : s.toks ≤ s'.toks) => z) _ _ (h Γ p hΓ))
theorem cs_key {P : Params} : ∃ o es ep, List.lookup cStatics (head.heap_39 P) = some o ∧ o.data = Data.dict es ep ∧ StrKeys es ∧ nsFind es sharingNotToldKey = none := ⟨_, _, _, rfl, rfl, by
  intro e he
  simp only [List.mem_toArray, List.mem_cons, List.not_mem_nil, or_false] at he
  rcases he with rfl | rfl | rfl | rfl | rfl | rfl | rfl | rfl | rfl <;> exact ⟨_, _, rfl⟩, rfl⟩
theorem booked {P : Params} {h₀ h : Heap} {L : Addr} {m : PySem.Str → Option Value} (X : (head.heap_39 P).In h₀) (F : Fr h₀ L h m) : NoneBooked h := by
  obtain ⟨o, es, ep, h1, h2, h3, h4⟩ := cs_key (P := P)
  exact ⟨fun n => nsFind es n, ⟨o, es, ep, F.keep _ _ (X _ _ h1), h2, h3, fun _ => rfl⟩, h4⟩
end Mine
end

/- Mm -/
noncomputable section
open PySem PySem.W PySem.Spec PySem.Calls PyProof.Rows

namespace Mine
theorem fl_gt {prog : Program} {w : World} {A : Around} {P : Nat → Value → Prop} (val : Nat → UInt64) (hval : ∀ i v, P i v → ∃ t, v = .float (val i) t) :
    CmpOf prog w A .Gt P (fun i j => Float64.cmp (val i) (val j) == some .gt) := fun i j vi vj s Q E hi hj h => by
  obtain ⟨t, rfl⟩ := hval i vi hi
  obtain ⟨u, rfl⟩ := hval j vj hj
  exact richCompare_gives (op := .Gt) (typeIs_float s _ t) (typeIs_float s _ u) F.slot_float_gt F.entry_float_gt (F.args_float_gt_2 _ _) (AutoFloatG4.float___gt___float_float_0 _ t _ u) (fun x => nomatch x) h
theorem fl_lt {prog : Program} {w : World} {A : Around} {P : Nat → Value → Prop} (val : Nat → UInt64) (hval : ∀ i v, P i v → ∃ t, v = .float (val i) t) :
    CmpOf prog w A .Lt P (fun i j => Float64.cmp (val i) (val j) == some .lt) := fun i j vi vj s Q E hi hj h => by
  obtain ⟨t, rfl⟩ := hval i vi hi
  obtain ⟨u, rfl⟩ := hval j vj hj
  exact richCompare_gives (op := .Lt) (typeIs_float s _ t) (typeIs_float s _ u) F.slot_float_lt F.entry_float_lt (F.args_float_lt_2 _ _) (AutoFloatG5.float___lt___float_float_0 _ t _ u) (fun x => nomatch x) h
noncomputable def fpick (p : UInt64 → UInt64 → Bool) (a b c : UInt64) : UInt64 := if p b a then (if p c b then c else b) else (if p c a then c else a)
noncomputable abbrev fgt (a b : UInt64) : Bool := Float64.cmp a b == some .gt
noncomputable abbrev flt (a b : UInt64) : Bool := Float64.cmp a b == some .lt
noncomputable def val3 (a b c : UInt64) (i : Nat) : UInt64 := if i = 0 then a else if i = 1 then b else c
theorem val3_at {a b c : UInt64} {t u x : Tok} : ∀ (i : Nat) (v : Value), (#[Value.float a t, Value.float b u, Value.float c x] : Array Value)[i]? = some v → ∃ t' : Tok, v = Value.float (val3 a b c i) t' := by
  intro i v h
  match i, h with
  | 0, h => exact ⟨t, by simpa [val3] using h.symm⟩
  | 1, h => exact ⟨u, by simpa [val3] using h.symm⟩
  | 2, h => exact ⟨x, by simpa [val3] using h.symm⟩
  | n + 3, h => simp at h
theorem pick_at {p : UInt64 → UInt64 → Bool} {a b c : UInt64} {t u x : Tok} {v : Value} (h : (#[Value.float a t, Value.float b u, Value.float c x] : Array Value)[argBest (fun i j => p (val3 a b c i) (val3 a b c j)) 2]? = some v) :
    ∃ t' : Tok, v = Value.float (fpick p a b c) t' ∧ (@Eq Nat t' t ∨ @Eq Nat t' u ∨ @Eq Nat t' x) := by
  unfold fpick
  by_cases hba : p b a = true
  · by_cases hc : p c b = true
    · have e : argBest (fun i j => p (val3 a b c i) (val3 a b c j)) 2 = 2 := by simp [argBest, val3, hba, hc]
      rw [e] at h
      exact ⟨x, by simpa [hba, hc] using h.symm, .inr (.inr rfl)⟩
    · have e : argBest (fun i j => p (val3 a b c i) (val3 a b c j)) 2 = 1 := by simp [argBest, val3, hba, hc]
      rw [e] at h
      exact ⟨u, by simpa [hba, hc] using h.symm, .inr (.inl rfl)⟩
  · by_cases hc : p c a = true
    · have e : argBest (fun i j => p (val3 a b c i) (val3 a b c j)) 2 = 2 := by simp [argBest, val3, hba, hc]
      rw [e] at h
      exact ⟨x, by simpa [hba, hc] using h.symm, .inr (.inr rfl)⟩
    · have e : argBest (fun i j => p (val3 a b c i) (val3 a b c j)) 2 = 0 := by simp [argBest, val3, hba, hc]
      rw [e] at h
      exact ⟨t, by simpa [hba, hc] using h.symm, .inl rfl⟩

theorem max3_N {prog : Program} {w : World} {A : Around} {E : Value → Shared → Prop} {s : Shared} {h₀ : Heap} {L : Addr} {m : PySem.Str → Option Value} {news : List (Addr × Obj)} {a b c : UInt64} {t u x : Tok} {Q : Value → Shared → Prop} (hh : A.handled = none) (F : Fr h₀ L s.heap m) (N : News h₀ L s.heap news)
    (h : ∀ h' tk t', (@Eq Nat t' t ∨ @Eq Nat t' u ∨ @Eq Nat t' x) → Fr h₀ L h' m → News h₀ L h' news → Q (.float (fpick fgt a b c) t') { s with heap := h', toks := tk }) :
    wpAny (model prog w) A (call (.builtin "max") [.float a t, .float b u, .float c x]) Q E s := by
  have hT : (s.heap.push { cls := .type "tuple", data := .seq #[.float a t, .float b u, .float c x] }).IsTuple s.heap.objs.size #[.float a t, .float b u, .float c x] := ⟨_, Heap.get?_push_size _ rfl, rfl, 0, rfl⟩
  refine call_max_three (wpAny_pyIter_tuple hT ?_)
  have hsz : (s.heap.push { cls := .type "tuple", data := .seq #[.float a t, .float b u, .float c x] }).objs.size = s.heap.objs.size + 1 := Heap.size_push ..
  refine ⟨_, [_, s.heap.objs.size], [_], _, _, _, _, rfl, Walks.tuple (A := A.in1) hh _ s.heap.objs.size (by rw [hsz]; exact Nat.ne_of_lt (Nat.lt_succ_self _)) #[.float a t, .float b u, .float c x],
    ⟨⟨_, Heap.get?_push_size _ rfl, rfl, rfl⟩, hT.push _⟩, fun d hd => ?_, by simp, fl_gt (val3 a b c) val3_at, fun v h' tk hP hk => ?_⟩
  · show d < ((s.heap.push _).push _).objs.size
    rw [Heap.size_push, hsz]
    rcases List.mem_cons.mp hd with rfl | hd
    · rw [hsz]; exact Nat.lt_succ_self _
    · rcases List.mem_cons.mp hd with rfl | hd
      · exact Nat.lt_succ_of_lt (Nat.lt_succ_self _)
      · cases hd
  · have hold : ∀ d o, s.heap.get? d = some o → h'.get? d = some o := fun d o e => by
      refine hk d o (fun hm => ?_) (Heap.get?_push_of_some _ (Heap.get?_push_of_some _ e))
      rcases List.mem_cons.mp hm with e1 | hm
      · have := Heap.lt_size e; rw [e1, hsz] at this; exact Nat.lt_irrefl _ (Nat.lt_of_succ_lt this)
      · cases hm
    obtain ⟨t', rfl, ht⟩ := pick_at (p := fgt) hP
    exact h h' tk t' ht (F.grownK hold) (N.grown hold)

theorem min3_N {prog : Program} {w : World} {A : Around} {E : Value → Shared → Prop} {s : Shared} {h₀ : Heap} {L : Addr} {m : PySem.Str → Option Value} {news : List (Addr × Obj)} {a b c : UInt64} {t u x : Tok} {Q : Value → Shared → Prop} (hh : A.handled = none) (F : Fr h₀ L s.heap m) (N : News h₀ L s.heap news)
    (h : ∀ h' tk t', (@Eq Nat t' t ∨ @Eq Nat t' u ∨ @Eq Nat t' x) → Fr h₀ L h' m → News h₀ L h' news → Q (.float (fpick flt a b c) t') { s with heap := h', toks := tk }) :
    wpAny (model prog w) A (call (.builtin "min") [.float a t, .float b u, .float c x]) Q E s := by
  have hT : (s.heap.push { cls := .type "tuple", data := .seq #[.float a t, .float b u, .float c x] }).IsTuple s.heap.objs.size #[.float a t, .float b u, .float c x] := ⟨_, Heap.get?_push_size _ rfl, rfl, 0, rfl⟩
  refine call_min_three (wpAny_pyIter_tuple hT ?_)
  have hsz : (s.heap.push { cls := .type "tuple", data := .seq #[.float a t, .float b u, .float c x] }).objs.size = s.heap.objs.size + 1 := Heap.size_push ..
  refine ⟨_, [_, s.heap.objs.size], [_], _, _, _, _, rfl, Walks.tuple (A := A.in1) hh _ s.heap.objs.size (by rw [hsz]; exact Nat.ne_of_lt (Nat.lt_succ_self _)) #[.float a t, .float b u, .float c x],
    ⟨⟨_, Heap.get?_push_size _ rfl, rfl, rfl⟩, hT.push _⟩, fun d hd => ?_, by simp, fl_lt (val3 a b c) val3_at, fun v h' tk hP hk => ?_⟩
  · show d < ((s.heap.push _).push _).objs.size
    rw [Heap.size_push, hsz]
    rcases List.mem_cons.mp hd with rfl | hd
    · rw [hsz]; exact Nat.lt_succ_self _
    · rcases List.mem_cons.mp hd with rfl | hd
      · exact Nat.lt_succ_of_lt (Nat.lt_succ_self _)
      · cases hd
  · have hold : ∀ d o, s.heap.get? d = some o → h'.get? d = some o := fun d o e => by
      refine hk d o (fun hm => ?_) (Heap.get?_push_of_some _ (Heap.get?_push_of_some _ e))
      rcases List.mem_cons.mp hm with e1 | hm
      · have := Heap.lt_size e; rw [e1, hsz] at this; exact Nat.lt_irrefl _ (Nat.lt_of_succ_lt this)
      · cases hm
    obtain ⟨t', rfl, ht⟩ := pick_at (p := flt) hP
    exact h h' tk t' ht (F.grownK hold) (N.grown hold)

theorem div_nz {prog : Program} {w : World} {A : Around} {E : Value → Shared → Prop} {s : Shared} {a b : UInt64} {t u : Tok} {Q : Value → Shared → Prop} (hz : Float64.isZero b = false) (h : Q (.float (Float64.div a b) s.toks) { s with toks := s.toks + 1 }) :
    wpAny (model prog w) A (binaryOp .Div (.float a t) (.float b u)) Q E s := AutoFloatOps.truediv_1 (by rw [hz]; exact Bool.false_ne_true) h
theorem mod_nz {prog : Program} {w : World} {A : Around} {E : Value → Shared → Prop} {s : Shared} {a b : UInt64} {t u : Tok} {Q : Value → Shared → Prop} (hz : Float64.isZero b = false) (h : Q (.float (Float64.divmod a b).snd s.toks) { s with toks := s.toks + 1 }) :
    wpAny (model prog w) A (binaryOp .Mod (.float a t) (.float b u)) Q E s := AutoFloatOps.mod_1 (by rw [hz]; exact Bool.false_ne_true) h

noncomputable abbrev tup3 (r : UInt64 × UInt64 × UInt64) (t1 t2 t3 : Tok) : Obj := { cls := .type "tuple", data := .seq #[.float r.1 t1, .float r.2.1 t2, .float r.2.2 t3] }
noncomputable def tripRes (news : List (Addr × Obj)) (r : UInt64 × UInt64 × UInt64) (v : Value) (nx : List (Addr × Obj)) : Prop := ∃ l t1 t2 t3, v = .ref l ∧ (∀ p ∈ news, p.1 < l) ∧ nx = (l, tup3 r t1 t2 t3) :: news
/-- a contract that tells of the tokens too: out gets the count of tokens ahead of the call and behind it -/
noncomputable def SpecT (w : World) (mean : ExcName → Option Value) (mg mb : PySem.Str → Option Value) (need : Nat) (f : Addr) (news : List (Addr × Obj)) (vs : List Value) (out : Nat → Nat → Value → List (Addr × Obj) → Prop) : Prop :=
  ∀ (dp un : Nat) (gd : Option (List Code)) (cn : PySem.Str) (cs : Scope) (a : Addr) (ccd : Value) (cl : List (PySem.Str × Addr)) (outer : List Env) (A₀ : Around) (base h₀ : Heap) (L : Addr) (m : PySem.Str → Option Value) (s : Shared) (Q E : Value → Shared → Prop),
    Below A₀ base outer h₀ → Fr h₀ L s.heap m → (head.heap_39 w.params).In h₀ → News h₀ L s.heap news → Top head.view_39 LS mean mg mb h₀ → cs.kind = .function →
    dp + need < recursionLimit → un + 16 * need < cLine → 0 < s.toks →
    (∀ r nx h' tk', Fr h₀ L h' m → News h₀ L h' nx → out s.toks tk' r nx → Q r { s with heap := h', toks := tk' }) →
    wpAny (model PySem.Challenge.rw_sr0019_01.row.prog w) (ktrTop dp un gd cn cs L a ccd cl outer) (call (.ref f) vs) Q E s
theorem SpecT.use {w : World} {mean : ExcName → Option Value} {mg mb : PySem.Str → Option Value} {need : Nat} {f : Addr} {news : List (Addr × Obj)} {vs : List Value} {out : Nat → Nat → Value → List (Addr × Obj) → Prop}
    {dp un : Nat} {gd : Option (List Code)} {cn : PySem.Str} {cs : Scope} {a : Addr} {ccd : Value} {cl : List (PySem.Str × Addr)} {outer : List Env} {A₀ : Around} {base h₀ : Heap} {L : Addr} {m : PySem.Str → Option Value} {s : Shared} {Q E : Value → Shared → Prop}
    (S : SpecT w mean mg mb need f news vs out) (B : Below A₀ base outer h₀) (F : Fr h₀ L s.heap m) (X : (head.heap_39 w.params).In h₀) (N : News h₀ L s.heap news) (T : Top head.view_39 LS mean mg mb h₀) (hk : cs.kind = .function)
    (hd : dp + need < recursionLimit) (hu : un + 16 * need < cLine) (hp : 0 < s.toks)
    (k : ∀ r nx h' tk', Fr h₀ L h' m → News h₀ L h' nx → out s.toks tk' r nx → Q r { s with heap := h', toks := tk' }) :
    wpAny (model PySem.Challenge.rw_sr0019_01.row.prog w) (ktrTop dp un gd cn cs L a ccd cl outer) (call (.ref f) vs) Q E s := S _ _ _ _ _ _ _ _ _ _ _ _ _ _ _ _ _ B F X N T hk hd hu hp k
noncomputable def tripPos (news : List (Addr × Obj)) (r : UInt64 × UInt64 × UInt64) (_ _ : Nat) (v : Value) (nx : List (Addr × Obj)) : Prop := ∃ l t1 t2 t3, v = .ref l ∧ (∀ p ∈ news, p.1 < l) ∧ nx = (l, tup3 r t1 t2 t3) :: news ∧ @LT.lt Nat _ 0 t1 ∧ @LT.lt Nat _ 0 t2 ∧ @LT.lt Nat _ 0 t3
noncomputable def tripNew (news : List (Addr × Obj)) (r : UInt64 × UInt64 × UInt64) (n n' : Nat) (v : Value) (nx : List (Addr × Obj)) : Prop := ∃ l t1 t2 t3, v = .ref l ∧ (∀ p ∈ news, p.1 < l) ∧ nx = (l, tup3 r t1 t2 t3) :: news ∧ (@LE.le Nat _ n t1 ∧ @LT.lt Nat _ t1 n') ∧ (@LE.le Nat _ n t2 ∧ @LT.lt Nat _ t2 n') ∧ (@LE.le Nat _ n t3 ∧ @LT.lt Nat _ t3 n')
theorem gen_le {α : Type} {M : Model} {A : Around} {x : Sem α} {Q : α → Shared → Prop} {E : Value → Shared → Prop} {h g d os} {t : Nat} (H : ∀ tk, t ≤ tk → wpAny M A x Q E ⟨h, g, d, tk, os⟩) : wpAny M A x Q E ⟨h, g, d, t, os⟩ := H t (Nat.le_refl _)
theorem if_fls {α : Sort _} {b : Bool} {x y : α} (h : b = false) : (if b = true then x else y) = y := by rw [h]; rfl
noncomputable abbrev eqf (a b : UInt64) : Bool := Float64.cmp a b == some .eq
noncomputable abbrev lef (a b : UInt64) : Bool := Float64.cmp a b == some .lt || Float64.cmp a b == some .eq
noncomputable abbrev mx (a b c : UInt64) : UInt64 := fpick fgt a b c
noncomputable abbrev mn (a b c : UInt64) : UInt64 := fpick flt a b c
noncomputable abbrev rg (a b c : UInt64) : UInt64 := Float64.sub (mx a b c) (mn a b c)
noncomputable abbrev fr (a b c x : UInt64) : UInt64 := Float64.div (Float64.sub (mx a b c) x) (rg a b c)
noncomputable def hueOf (a b c : UInt64) : UInt64 :=
  (Float64.divmod (Float64.div (if eqf a (mx a b c) = true then Float64.sub (fr a b c c) (fr a b c b) else
    if eqf b (mx a b c) = true then Float64.sub (Float64.add 4611686018427387904 (fr a b c a)) (fr a b c c) else
    Float64.sub (Float64.add 4616189618054758400 (fr a b c b)) (fr a b c a)) 4618441417868443648) 4607182418800017408).snd
noncomputable def hsvOf (a b c : UInt64) : UInt64 × UInt64 × UInt64 :=
  if eqf (mn a b c) (mx a b c) = true then (0, 0, mx a b c) else (hueOf a b c, Float64.div (rg a b c) (mx a b c), mx a b c)
noncomputable abbrev lumOf (a b c : UInt64) : UInt64 := Float64.div (Float64.add (mx a b c) (mn a b c)) 4611686018427387904
noncomputable def hlsOf (a b c : UInt64) : UInt64 × UInt64 × UInt64 :=
  if eqf (mn a b c) (mx a b c) = true then (0, lumOf a b c, 0) else
    (hueOf a b c, lumOf a b c, if lef (lumOf a b c) 4602678819172646912 = true then Float64.div (rg a b c) (Float64.add (mx a b c) (mn a b c)) else Float64.div (rg a b c) (Float64.sub (Float64.sub 4611686018427387904 (mx a b c)) (mn a b c)))

noncomputable def r72 (x : UInt64) : Int := Flt.toInt Float64.nearestOf (Float64.mul (Float64.ofInt 72) x)
noncomputable def waysOf (r g : UInt64) : Int :=
  if (Float64.cmpInt g 0 == some Ordering.eq) = true then 12 else
  if (Float64.cmpInt g 1 == some Ordering.eq) = true then (if ([0, 12].any fun x => x == Flt.toInt Float64.nearestOf (Float64.mul (Float64.ofInt 72) r)) = true then 8 else 4) else
  (if ([0, 12].any fun x => x == Flt.toInt Float64.nearestOf (Float64.mul (Float64.ofInt 72) r)) = true then 4 else 2)
theorem drop_1 {h₀ h : Heap} {L : Addr} {q : Addr × Obj} {news : List (Addr × Obj)} (N : News h₀ L h (q :: news)) : News h₀ L h news := fun p hp => N p (.tail _ hp)
end Mine
end

/- Hsv -/
noncomputable section
open PySem PySem.W PySem.Spec PySem.Calls PyProof.Rows

namespace Mine
local macro_rules | `(tactic| walk_at $s:str) => `(tactic| k_extra $s)
theorem hsv_spec (w : World) (mean : ExcName → Option Value) (mg mb : PySem.Str → Option Value) (news : List (Addr × Obj)) (r g b : UInt64) (t u x : Tok) (ht : @LT.lt Nat _ 0 t) (hu : @LT.lt Nat _ 0 u) (hx : @LT.lt Nat _ 0 x)
    (hz : eqf (mn r g b) (mx r g b) = false → Float64.isZero (rg r g b) = false ∧ Float64.isZero (mx r g b) = false) :
    SpecT w mean mg mb 1 82 news [.float r t, .float g u, .float b x] (tripPos news (hsvOf r g b)) := by
  unfold SpecT; k_fill; w_top off
  intro dp un gd cn cs a ccd cl outer A₀ base h₀ L m s Q E B F X N T hk hd hU hp hret
  k_with_none
  k_with "call builtin:max" => (k_here; k_dflt (refine tk_le ?_; refine' max3_N (by rfl) ?wF ?wN ?_; (case wF => k_asm); (case wN => k_asm)); intro h' tk' t' ht' F' N' hl'; (try dsimp only at hl'))
  k_with "call builtin:min" => (k_here; k_dflt (refine tk_le ?_; refine' min3_N (by rfl) ?wF ?wN ?_; (case wF => k_asm); (case wN => k_asm)); intro h' tk' t' ht' F' N' hl'; (try dsimp only at hl'))
  k_with "binaryOp Div float float" => (k_dflt (refine' div_nz ?wz ?_; (case wz => first | (rename _ → _ ∧ _ => hz; first | exact (hz (by assumption)).1 | exact (hz (by assumption)).2) | decide +kernel)))
  k_with "binaryOp Mod float float" => (k_dflt (refine' mod_nz ?wz ?_; (case wz => decide +kernel)))
  k_with "execs cons" => (k_here; (with_reducible refine gen_le ?_); intro tk' hl'; (try dsimp only at hl'); (with_reducible refine wpAny_execs_cons ?_); (try dsimp only))
  k_with "execs nil" => (k_here; (with_reducible refine gen_le ?_); intro tk' hl'; (try dsimp only at hl'); (with_reducible refine wpAny_execs_nil ?_); (try dsimp only))
  refine wpAny_call ?_
  k_dflt (refine' code_def ?k1 ?k2 ?k3 ?k4 ?k5 ?kA ?kF ?kK ?k6 ?k7 ?k8 ?k9 ?kB ?_ ?c2 ?c3 ?c4 ?c5; (case kA => exact rfl); (case kF => exact rfl); (case kK => assumption); (case k1 => k_asm); (case k2 => k_asm); (case k3 => k_asm); (case k4 => k_asm); (case k5 => k_asm); (case k6 => k_is); (case k7 => k_is); (case k8 => ktr_room); (case k9 => (refine' kp_binds ?kx ?ke; (case kx => k_in); (case ke => exact fun _ => rfl))); (case c5 => decide); (case kB => exact locs rfl); (case c2 => exact rfl); (case c3 => exact rfl); (case c4 => exact rfl); k_whole; intro g' L' h' FG' F' N' B' X' T'; (try dsimp only); (try k_lift B'); (try k_fold))
  k_steps
  · refine hret _ _ _ _ (by assumption) (by assumption) ?_
    unfold hsvOf
    rw [if_pos (by assumption)]
    refine ⟨_, _, _, _, rfl, by assumption, rfl, ?_⟩
    (try dsimp only); omega
  · refine hret _ _ _ _ (by assumption) (by assumption) ?_
    unfold hsvOf hueOf
    rw [if_fls (by assumption), if_pos (by assumption)]
    refine ⟨_, _, _, _, rfl, by assumption, rfl, ?_⟩
    (try dsimp only); omega
  · refine hret _ _ _ _ (by assumption) (by assumption) ?_
    unfold hsvOf hueOf
    rw [if_fls (by assumption), if_fls (by assumption), if_pos (by assumption)]
    refine ⟨_, _, _, _, rfl, by assumption, rfl, ?_⟩
    (try dsimp only); omega
  · refine hret _ _ _ _ (by assumption) (by assumption) ?_
    unfold hsvOf hueOf
    rw [if_fls (by assumption), if_fls (by assumption), if_fls (by assumption)]
    refine ⟨_, _, _, _, rfl, by assumption, rfl, ?_⟩
    (try dsimp only); omega
end Mine
end

/- Hls -/
noncomputable section
open PySem PySem.W PySem.Spec PySem.Calls PyProof.Rows

namespace Mine
local macro_rules | `(tactic| walk_at $s:str) => `(tactic| k_extra $s)
theorem hls_spec (w : World) (mean : ExcName → Option Value) (mg mb : PySem.Str → Option Value) (news : List (Addr × Obj)) (r g b : UInt64) (t u x : Tok) (ht : @LT.lt Nat _ 0 t) (hu : @LT.lt Nat _ 0 u) (hx : @LT.lt Nat _ 0 x)
    (hz : eqf (mn r g b) (mx r g b) = false → Float64.isZero (rg r g b) = false ∧ Float64.isZero (Float64.add (mx r g b) (mn r g b)) = false ∧ Float64.isZero (Float64.sub (Float64.sub 4611686018427387904 (mx r g b)) (mn r g b)) = false) :
    SpecT w mean mg mb 1 75 news [.float r t, .float g u, .float b x] (tripNew news (hlsOf r g b)) := by
  unfold SpecT; k_fill; w_top off
  intro dp un gd cn cs a ccd cl outer A₀ base h₀ L m s Q E B F X N T hk hd hU hp hret
  k_with_none
  k_with "call builtin:max" => (k_here; k_dflt (refine tk_le ?_; refine' max3_N (by rfl) ?wF ?wN ?_; (case wF => k_asm); (case wN => k_asm)); intro h' tk' t' ht' F' N' hl'; (try dsimp only at hl'))
  k_with "call builtin:min" => (k_here; k_dflt (refine tk_le ?_; refine' min3_N (by rfl) ?wF ?wN ?_; (case wF => k_asm); (case wN => k_asm)); intro h' tk' t' ht' F' N' hl'; (try dsimp only at hl'))
  k_with "binaryOp Div float float" => (k_dflt (refine' div_nz ?wz ?_; (case wz => first | (rename _ → _ ∧ _ => hz; first | exact (hz (by assumption)).1 | exact (hz (by assumption)).2.1 | exact (hz (by assumption)).2.2) | decide +kernel)))
  k_with "binaryOp Mod float float" => (k_dflt (refine' mod_nz ?wz ?_; (case wz => decide +kernel)))
  k_with "execs cons" => (k_here; (with_reducible refine gen_le ?_); intro tk' hl'; (try dsimp only at hl'); (with_reducible refine wpAny_execs_cons ?_); (try dsimp only))
  k_with "execs nil" => (k_here; (with_reducible refine gen_le ?_); intro tk' hl'; (try dsimp only at hl'); (with_reducible refine wpAny_execs_nil ?_); (try dsimp only))
  refine wpAny_call ?_
  k_dflt (refine' code_def ?k1 ?k2 ?k3 ?k4 ?k5 ?kA ?kF ?kK ?k6 ?k7 ?k8 ?k9 ?kB ?_ ?c2 ?c3 ?c4 ?c5; (case kA => exact rfl); (case kF => exact rfl); (case kK => assumption); (case k1 => k_asm); (case k2 => k_asm); (case k3 => k_asm); (case k4 => k_asm); (case k5 => k_asm); (case k6 => k_is); (case k7 => k_is); (case k8 => ktr_room); (case k9 => (refine' kp_binds ?kx ?ke; (case kx => k_in); (case ke => exact fun _ => rfl))); (case c5 => decide); (case kB => exact locs rfl); (case c2 => exact rfl); (case c3 => exact rfl); (case c4 => exact rfl); k_whole; intro g' L' h' FG' F' N' B' X' T'; (try dsimp only); (try k_lift B'); (try k_fold))
  k_steps
  all_goals (
    refine hret _ _ _ _ (by assumption) (by assumption) ?_
    unfold hlsOf
    try unfold hueOf
    repeat (first | rw [if_pos (by assumption)] | rw [if_fls (by assumption)] | rw [if_neg (by assumption)])
    refine ⟨_, _, _, _, rfl, by assumption, rfl, ?_⟩
    omega)
end Mine
end

/- Ways -/
noncomputable section
open PySem PySem.W PySem.Spec PySem.Calls PyProof.Rows

namespace Mine
theorem ways_spec (w : World) (mean : ExcName → Option Value) (mg mb : PySem.Str → Option Value) (news : List (Addr × Obj)) (r g : UInt64) (t u : Tok)
    (hn : Float64.isNaN (Float64.mul (Float64.ofInt 72) r) = false) (hi : Float64.isInf (Float64.mul (Float64.ofInt 72) r) = false) :
    Spec w mean mg mb 1 118 news [.float r t, .float g u] (fun v nx => ∃ t', v = .int (waysOf r g) t' ∧ nx = news) := by
  unfold Spec; k_fill; w_top off
  intro dp un gd cn cs a ccd cl outer A₀ base h₀ L m s Q E B F X N T hk hd hu hret
  k_with_none
  refine wpAny_call ?_
  k_dflt (refine' code_def ?k1 ?k2 ?k3 ?k4 ?k5 ?kA ?kF ?kK ?k6 ?k7 ?k8 ?k9 ?kB ?_ ?c2 ?c3 ?c4 ?c5; (case kA => exact rfl); (case kF => exact rfl); (case kK => assumption); (case k1 => k_asm); (case k2 => k_asm); (case k3 => k_asm); (case k4 => k_asm); (case k5 => k_asm); (case k6 => k_is); (case k7 => k_is); (case k8 => ktr_room); (case k9 => (refine' kp_binds ?kx ?ke; (case kx => k_in); (case ke => exact fun _ => rfl))); (case c5 => decide); (case kB => exact locs rfl); (case c2 => exact rfl); (case c3 => exact rfl); (case c4 => exact rfl); k_whole; intro g' L' h' FG' F' N' B' X' T'; (try dsimp only); (try k_lift B'); (try k_fold))
  k_steps
  all_goals first
    | exact absurd (by assumption : Float64.isNaN _ = true) (by rw [hn]; exact Bool.false_ne_true)
    | exact absurd (by assumption : Float64.isInf _ = true) (by rw [hi]; exact Bool.false_ne_true)
    | (refine hret _ news _ _ (by assumption) (by first | assumption | (exact drop_1 (by assumption))) ?_
       unfold waysOf
       repeat (first | rw [if_pos (by assumption)] | rw [if_fls (by assumption)] | rw [if_neg (by assumption)])
       exact ⟨_, rfl, rfl⟩)
end Mine
end

/- Two -/
noncomputable section
open PySem PySem.W PySem.Spec PySem.Calls PyProof.Rows PyProof.Rows.LCg

namespace Mine
theorem turn0_two (elt t0 i0 t1 i1 : PySem.Expr) (scope : Scope) (pos : Pos) (it acc : Value) (env : Env) :
    compTurn (.ListComp elt [⟨t0, i0, [], 0⟩, ⟨t1, i1, [], 0⟩] scope pos) 0 it acc env = (do
      standAt i0.pos
      match ← pyNext it with
      | none => pure (.done .next)
      | some v =>
        letOwnedTupleGo t0 it v
        assign t0 env v
        let x ← eval i1 env
        standAt i1.pos
        let x ← foldedSetIterable i1 env x
        let it1 ← holding [x] (pyIter x)
        let _ ← runOwn (.compStart (.ListComp elt [⟨t0, i0, [], 0⟩, ⟨t1, i1, [], 0⟩] scope pos) 1 it1 acc env) env
        again (.compLoop (.ListComp elt [⟨t0, i0, [], 0⟩, ⟨t1, i1, [], 0⟩] scope pos) 0 it acc env)) := by rfl
theorem turn1_two (elt t0 i0 t1 i1 : PySem.Expr) (scope : Scope) (pos : Pos) (it acc : Value) (env : Env) :
    compTurn (.ListComp elt [⟨t0, i0, [], 0⟩, ⟨t1, i1, [], 0⟩] scope pos) 1 it acc env = (do
      standAt i1.pos
      match ← pyNext it with
      | none => pure (.done .next)
      | some v =>
        letOwnedTupleGo t1 it v
        assign t1 env v
        (do let _ ← call (.builtin "list.append") [acc, ← eval elt env])
        again (.compLoop (.ListComp elt [⟨t0, i0, [], 0⟩, ⟨t1, i1, [], 0⟩] scope pos) 1 it acc env)) := by rfl
section
variable {prog : Program} {w : World} {A : Around} {E : Value → Shared → Prop} {R : Result → Shared → Prop} {s : Shared}
theorem start1_two {elt t0 i0 t1 i1 : PySem.Expr} {scope : Scope} {pos : Pos} {it acc : Value} {env : Env}
    (h0 : codeAny (model prog w) A (.compLoop (.ListComp elt [⟨t0, i0, [], 0⟩, ⟨t1, i1, [], 0⟩] scope pos) 1 it acc env) R s)
    (h : wpAny (model prog w) A (pyIter it) (fun it' s' => codeAny (model prog w) A (.compLoop (.ListComp elt [⟨t0, i0, [], 0⟩, ⟨t1, i1, [], 0⟩] scope pos) 1 it' acc env) R s')
      (notedBy (model prog w) A env fun x s' => R (.error x) s') s) :
    codeAny (model prog w) A (.compStart (.ListComp elt [⟨t0, i0, [], 0⟩, ⟨t1, i1, [], 0⟩] scope pos) 1 it acc env) R s := by
  refine codeAny_of_tree ?_
  show wpAny _ _ ((compStart (.ListComp elt [⟨t0, i0, [], 0⟩, ⟨t1, i1, [], 0⟩] scope pos) 1 it acc env).onRaise (fun x => do noteFrame x env; standAt theWindowsPlace)) _ _ s
  refine wpAny_notedAt ?_
  unfold compStart
  show wpAny _ _ (ask >>= _) _ _ s
  refine wpAny_bind (wpAny_askSetting (wpAny_ite ?_))
  split
  · first
      | exact wpAny_bind (wpAny_pure (wpAny_pure (And.intro rfl h0)))
      | exact wpAny_pure (And.intro rfl h0)
  · first
      | exact wpAny_bind (wpAny_rule (wpAny_bind (wpAny_standAt (wpAny_bind (wpAny_mono h (fun it' s' h' => wpAny_pure (And.intro rfl h')) fun _ _ x => x)))))
      | (refine wpAny_bind (wpAny_rule ?_); show wpAny _ _ (standAt i1.pos >>= _) _ _ s; exact wpAny_bind (wpAny_standAt (wpAny_bind (wpAny_mono h (fun it' s' h' => wpAny_pure (And.intro rfl h')) fun _ _ x => x))))
theorem loop1_two {elt t0 i0 t1 i1 : PySem.Expr} {scope : Scope} {pos : Pos} {it acc : Value} {env : Env} (I : Nat → Shared → Prop)
    (turn : ∀ n s, I n s → wpAny (model prog w) A (pyNext it) (fun r s₁ => match r with
      | none => R (.ok .next) s₁
      | some v => wpAny (model prog w) A (assign t1 env v) (fun _ s₂ => wpAny (model prog w) A (eval elt env) (fun x s₃ =>
          wpAny (model prog w) A (call (.builtin "list.append") [acc, x]) (fun _ s₄ => ∃ m, m < n ∧ I m s₄) (notedBy (model prog w) A env fun e s' => R (.error e) s') s₃)
            (notedBy (model prog w) A env fun e s' => R (.error e) s') s₂) (notedBy (model prog w) A env fun e s' => R (.error e) s') s₁) (notedBy (model prog w) A env fun e s' => R (.error e) s') s)
    (n : Nat) (h : I n s) (ht : ∀ v, letOwnedTupleGo t1 it v = pure () := by intro _; rfl) :
    codeAny (model prog w) A (.compLoop (.ListComp elt [⟨t0, i0, [], 0⟩, ⟨t1, i1, [], 0⟩] scope pos) 1 it acc env) R s := by
  refine codeAny_loop rfl I (fun n s hI => ?_) n h
  show wpAny _ A ((compTurn (.ListComp elt [⟨t0, i0, [], 0⟩, ⟨t1, i1, [], 0⟩] scope pos) 1 it acc env).onRaise (fun x => do noteFrame x env; theTreesLotGoes x)) _ _ s
  refine wpAny_noted ?_
  rw [turn1_two]
  refine wpAny_bind (wpAny_standAt (wpAny_bind (wpAny_mono (turn n s hI) (fun r s₁ h₁ => ?_) fun _ _ h' => h')))
  cases r with
  | none => exact wpAny_pure h₁
  | some v =>
    refine wpAny_bind (wpAny_of_eq (ht v) ?_)
    exact wpAny_bind (wpAny_mono h₁ (fun _ s₂ h₂ => wpAny_bind (wpAny_bind (wpAny_mono h₂ (fun x s₃ h₃ => wpAny_bind (wpAny_mono h₃ (fun _ s₄ h₄ => wpAny_pure (wpAny_pure ⟨rfl, h₄⟩)) fun _ _ h' => h')) fun _ _ h' => h'))) fun _ _ h' => h')
theorem loop0_two {elt t0 i0 t1 i1 : PySem.Expr} {scope : Scope} {pos : Pos} {it acc : Value} {env : Env} (I : Nat → Shared → Prop)
    (turn : ∀ n s, I n s → wpAny (model prog w) A (pyNext it) (fun r s₁ => match r with
      | none => R (.ok .next) s₁
      | some v => wpAny (model prog w) A (assign t0 env v) (fun _ s₂ => wpAny (model prog w) A (eval i1 env) (fun x s₃ =>
          wpAny (model prog w) A (pyIter x) (fun it1 s₄ => codeAny (model prog w) A (.compStart (.ListComp elt [⟨t0, i0, [], 0⟩, ⟨t1, i1, [], 0⟩] scope pos) 1 it1 acc env) (fun r s₅ => match r with | .ok _ => ∃ m, m < n ∧ I m s₅ | .error _ => False) s₄) (notedBy (model prog w) A env fun e s' => R (.error e) s') s₃)
            (notedBy (model prog w) A env fun e s' => R (.error e) s') s₂) (notedBy (model prog w) A env fun e s' => R (.error e) s') s₁) (notedBy (model prog w) A env fun e s' => R (.error e) s') s)
    (n : Nat) (h : I n s) (ht : ∀ v, letOwnedTupleGo t0 it v = pure () := by intro _; rfl) (hf : ∀ x, foldedSetIterable i1 env x = pure x := by intro _; rfl) :
    codeAny (model prog w) A (.compLoop (.ListComp elt [⟨t0, i0, [], 0⟩, ⟨t1, i1, [], 0⟩] scope pos) 0 it acc env) R s := by
  refine codeAny_loop rfl I (fun n s hI => ?_) n h
  show wpAny _ A ((compTurn (.ListComp elt [⟨t0, i0, [], 0⟩, ⟨t1, i1, [], 0⟩] scope pos) 0 it acc env).onRaise (fun x => do noteFrame x env; theTreesLotGoes x)) _ _ s
  refine wpAny_noted ?_
  rw [turn0_two]
  refine wpAny_bind (wpAny_standAt (wpAny_bind (wpAny_mono (turn n s hI) (fun r s₁ h₁ => ?_) fun _ _ h' => h')))
  cases r with
  | none => exact wpAny_pure h₁
  | some v =>
    refine wpAny_bind (wpAny_of_eq (ht v) ?_)
    refine wpAny_bind (wpAny_mono h₁ (fun _ s₂ h₂ => wpAny_bind (wpAny_mono h₂ (fun x s₃ h₃ => wpAny_bind (wpAny_standAt (wpAny_bind (wpAny_of_eq (hf x) ?_)))) fun _ _ h' => h')) fun _ _ h' => h')
    refine wpAny_bind (wpAny_holding (wpAny_mono h₃ (fun it1 s₄ h₄ => wpAny_bind (wpAny_runOwn (codeAny_mono h₄ (fun r s₅ h₅ => ?_)))) fun _ _ h' => h'))
    cases r with
    | ok f => exact wpAny_pure ⟨rfl, h₅⟩
    | error e => exact h₅.elim
end
section
variable {prog : Program} {w : World} {A : Around} {E : Value → Shared → Prop} {s : Shared} {h₀ : Heap} {L : Addr} {m : PySem.Str → Option Value} {env : Env}
noncomputable def RangeEnd (h₀ : Heap) (L : Addr) (m : PySem.Str → Option Value) (s : Shared) (a : Int) (n : Nat) (all : List (Addr × Obj)) (xv : Value) (s₂ : Shared) : Prop :=
  ∃ h' tk r b t u v, s₂ = { s with heap := h', toks := tk } ∧ xv = .ref r ∧ Fr h₀ L h' m ∧ News h₀ L h' all ∧ IsRange h' r a b 1 t u v ∧ Builtin.Range.small a b 1 = true ∧ Builtin.Range.rangeSize a b 1 = (n : Int)
theorem RangeEnd.intro {h' : Heap} {tk : Nat} {r : Addr} {a b : Int} {t u v : Tok} {n : Nat} {all : List (Addr × Obj)} (F : Fr h₀ L h' m) (N : News h₀ L h' all) (hr : IsRange h' r a b 1 t u v) (hs : Builtin.Range.small a b 1 = true) (hn : Builtin.Range.rangeSize a b 1 = (n : Int)) :
    RangeEnd h₀ L m s a n all (.ref r) { s with heap := h', toks := tk } := ⟨h', tk, r, b, t, u, v, rfl, rfl, F, N, hr, hs, hn⟩
noncomputable def TwoIn (prog : Program) (w : World) (A : Around) (h₀ : Heap) (L : Addr) (m : PySem.Str → Option Value) (env : Env) (it1 : PySem.Expr) (x0 : PySem.Str) (scope : Scope) (cl : List (PySem.Str × Addr)) (a0 a1 : Int) (n0 n1 : Nat) (J : Nat → Nat → List Value → List (Addr × Obj) → Prop) (s : Shared) : Prop :=
  ∀ i t ys news I oI C oC D m₂ h tk (E' : Value → Shared → Prop), i < n0 → J i 0 ys news → NsObj oC m₂ → m₂ x0 = some (.int (a0 + (i : Int)) t) → Fr h₀ L h m → News h₀ L h ((I, oI) :: (C, oC) :: (D, lst ys) :: news) → Off3 I C D news → ((@Ne Nat I C) ∧ (@Ne Nat I D) ∧ (@Ne Nat C D)) →
    wpAny (model prog w) A (eval it1 (compEnvC scope cl C env)) (RangeEnd h₀ L m { s with heap := h, toks := tk } a1 n1 ((I, oI) :: (C, oC) :: (D, lst ys) :: news)) E' { s with heap := h, toks := tk }
noncomputable def TwoElt (prog : Program) (w : World) (A : Around) (h₀ : Heap) (L : Addr) (m : PySem.Str → Option Value) (env : Env) (elt : PySem.Expr) (x0 x1 : PySem.Str) (scope : Scope) (cl : List (PySem.Str × Addr)) (a0 a1 : Int) (n0 n1 : Nat) (J : Nat → Nat → List Value → List (Addr × Obj) → Prop) (s : Shared) : Prop :=
  ∀ i j t u ys news I oI C oC D I0 o0 m₂ h tk (E' : Value → Shared → Prop), i < n0 → j < n1 → J i j ys news → NsObj oC m₂ → m₂ x0 = some (.int (a0 + (i : Int)) t) → m₂ x1 = some (.int (a1 + (j : Int)) u) → Fr h₀ L h m → News h₀ L h ((I, oI) :: (C, oC) :: (D, lst ys) :: (I0, o0) :: news) → Off3 I C D ((I0, o0) :: news) → ((@Ne Nat I C) ∧ (@Ne Nat I D) ∧ (@Ne Nat C D)) → (∀ p ∈ news, p.1 ≠ I0) →
    wpAny (model prog w) A (eval elt (compEnvC scope cl C env)) (CompEnd h₀ L m { s with heap := h, toks := tk } I oI C oC D (lst ys) (fun _ => True) (fun y nw => ∃ nw', nw = (I0, o0) :: nw' ∧ (∀ p ∈ nw', p.1 ≠ I0) ∧ J i (j + 1) (ys ++ [y]) nw')) E' { s with heap := h, toks := tk }
theorem inner_two {elt it0 it1 : PySem.Expr} {x0 x1 : PySem.Str} {p0 p1 : Pos} {scope : Scope} {cl : List (PySem.Str × Addr)} {pos : Pos} {a0 a1 : Int} {n0 n1 : Nat} {J : Nat → Nat → List Value → List (Addr × Obj) → Prop} {R : Result → Shared → Prop}
    (hh : A.handled = none) (hkind : scope.kind = .function) (hx1 : scope.names.lookup x1 = some .local) (hx01 : x0 ≠ x1)
    (hlen : ∀ i j ys nw, i < n0 → j < n1 → J i j ys nw → ys.length ≤ sizeLine)
    (hE : TwoElt prog w A h₀ L m env elt x0 x1 scope cl a0 a1 n0 n1 J s) {i : Nat} (hi : i < n0) {t : Tok} {C D I0 I : Addr} {o0 : Obj} {ys : List Value} {news : List (Addr × Obj)} {m' : PySem.Str → Option Value} {h : Heap} {tk : Nat}
    (hst : IsRangeIter h I (a1 + ((0 : Nat) : Int) * 1) ((n1 : Int) - ((0 : Nat) : Int)) 1) (hJ : J i 0 ys news) (hns : h.Ns C m') (hm : m' x0 = some (.int (a0 + (i : Int)) t)) (F : Fr h₀ L h m) (N : News h₀ L h ((D, lst ys) :: (I0, o0) :: news)) (off : Off3 I C D ((I0, o0) :: news)) (offI : ∀ p ∈ news, p.1 ≠ I0)
    (hCI : I ≠ C) (hDI : I ≠ D) (hDC : D ≠ C) (hIL : I ≠ L) (hCL : C ≠ L) (hDL : D ≠ L) (hI₀ : h₀.get? I = none) (hC₀ : h₀.get? C = none) (hD₀ : h₀.get? D = none)
    (fin : ∀ h' tk' ys' news' m'', Fr h₀ L h' m → h'.Ns C m'' → News h₀ L h' ((D, lst ys') :: (I0, o0) :: news') → Off3 I C D ((I0, o0) :: news') → (∀ p ∈ news', p.1 ≠ I0) → J i n1 ys' news' → R (.ok .next) { s with heap := h', toks := tk' }) :
    codeAny (model prog w) A (.compStart (.ListComp elt [⟨.Name x0 p0, it0, [], 0⟩, ⟨.Name x1 p1, it1, [], 0⟩] scope pos) 1 (.ref I) (.ref D) (compEnvC scope cl C env)) R { s with heap := h, toks := tk } := by
  have W := range_walks (prog := prog) (w := w) (I := I) hh a1 n1
  have loop : codeAny (model prog w) A (.compLoop (.ListComp elt [⟨.Name x0 p0, it0, [], 0⟩, ⟨.Name x1 p1, it1, [], 0⟩] scope pos) 1 (.ref I) (.ref D) (compEnvC scope cl C env)) R { s with heap := h, toks := tk } := by
    refine loop1_two
      (fun k s' => ∃ h' tk j ys m' news', s' = { s with heap := h', toks := tk } ∧ j ≤ n1 ∧ k = n1 + 1 - j ∧ IsRangeIter h' I (a1 + (j : Int) * 1) ((n1 : Int) - (j : Int)) 1 ∧ Fr h₀ L h' m ∧ h'.Ns C m' ∧ m' x0 = some (.int (a0 + (i : Int)) t) ∧ News h₀ L h' ((D, lst ys) :: (I0, o0) :: news') ∧
        Off3 I C D ((I0, o0) :: news') ∧ (∀ p ∈ news', p.1 ≠ I0) ∧ J i j ys news') ?_ (n1 + 1)
      ⟨h, tk, 0, ys, m', news, rfl, Nat.zero_le _, rfl, hst, F, hns, hm, N, off, offI, hJ⟩
    rintro k s' ⟨h', tk, j, ys, m', news', rfl, hj, rfl, hst', F', hn', hm', N', off', offI', hJ'⟩
    by_cases hlt : j < n1
    · refine W.item j _ _ _ hlt hst' fun v h₂ tk₂ hPv hst₂ hk₂ => ?_
      obtain ⟨u, rfl⟩ := hPv
      refine wpAny_assign_Name (wpAny_storeName_local (lookup_relabel_local hx1) (hn'.at' fun o e => hk₂ _ o (by simpa using Ne.symm hCI) e) (fun h₃ hn₃ hs₃ => ?_) (by simp [compEnvC, relabel, hkind]))
      have hst₃ : IsRangeIter h₃ I (a1 + ((j + 1 : Nat) : Int) * 1) ((n1 : Int) - ((j + 1 : Nat) : Int)) 1 := W.frame _ _ _ hst₂ fun b hb o e => hs₃.extBut b o (fun q => by
        have q' : b = C := q
        rw [q'] at hb
        exact hCI (List.mem_singleton.mp hb).symm) e
      obtain ⟨oI, heI⟩ : ∃ o, h₃.get? I = some o := ⟨_, hst₃⟩
      obtain ⟨oC, heC, hoC⟩ := ns_obj hn₃
      have F₃ : Fr h₀ L h₃ m := (fr_but F' hk₂ (Ne.symm hIL) hI₀).change hs₃ hCL hC₀
      have off3 := off'.mem
      have N₂ : News h₀ L h₂ ((D, lst ys) :: (I0, o0) :: news') := news_but N' hk₂ fun p hp => by
        rcases List.mem_cons.mp hp with rfl | hp
        · exact Ne.symm hDI
        · exact (off3 p hp).1
      have N₃ : News h₀ L h₃ ((I, oI) :: (C, oC) :: (D, lst ys) :: (I0, o0) :: news') := fun p hp => by
        rcases List.mem_cons.mp hp with rfl | hp
        · exact ⟨heI, hIL, hI₀⟩
        · rcases List.mem_cons.mp hp with rfl | hp
          · exact ⟨heC, hCL, hC₀⟩
          · have z := N₂ p hp
            refine ⟨hs₃.extBut _ _ ?_ z.1, z.2⟩
            rcases List.mem_cons.mp hp with rfl | hp
            · exact hDC
            · exact (off3 p hp).2.1
      refine wpAny_mono (hE i j t u ys news' I oI C oC D I0 o0 _ h₃ _ _ hi hlt hJ' hoC (by rw [if_neg hx01]; exact hm') (by rw [if_pos rfl]) F₃ N₃ off' ⟨hCI, hDI, Ne.symm hDC⟩ offI') (fun y s₄ h₄ => ?_) fun _ _ e => e
      obtain ⟨h₄, tk₄, nw, rfl, F₄, N₄, off₄, _, news₄, rfl, offI₄, hJ₄⟩ := h₄
      have zI := (N₄ (I, oI) List.mem_cons_self).1
      have zC := (N₄ (C, oC) (List.mem_cons_of_mem _ List.mem_cons_self)).1
      have zD := (N₄ (D, lst ys) (List.mem_cons_of_mem _ (List.mem_cons_of_mem _ List.mem_cons_self))).1
      have N₄' : News h₀ L h₄ ((I0, o0) :: news₄) := fun p hp => N₄ p (List.mem_cons_of_mem _ (List.mem_cons_of_mem _ (List.mem_cons_of_mem _ hp)))
      have hst₄ := range_st (h₀ := h₀) (L := L) _ _ h₄ _ _ hst₃ heI zI F₄.keep N₄' trivial
      refine append_at (hsz := by show ys.toArray.size ≤ sizeLine; rw [List.size_toArray]; exact hlen i j ys news' hi hlt hJ') zD fun h₅ hs₅ hD₅ => ?_
      have off4 := off₄.mem
      refine ⟨n1 + 1 - (j + 1), by omega, h₅, tk₄, j + 1, ys ++ [y], _, news₄, rfl, hlt, rfl, W.frame _ _ _ hst₄ fun b hb o e => hs₅.extBut b o (fun q => hDI (by rw [← List.mem_singleton.mp hb]; exact q)) e, F₄.change hs₅ hDL hD₀,
        (hoC.ns zC).sameBut hs₅ (Ne.symm hDC), by rw [if_neg hx01]; exact hm', fun p hp => ?_, off₄, offI₄, hJ₄⟩
      rcases List.mem_cons.mp hp with rfl | hp
      · exact ⟨hD₅.trans (congrArg some (lst_snoc ys y)), hDL, hD₀⟩
      · exact ⟨hs₅.extBut _ _ (off4 p hp).2.2 (N₄' p hp).1, (N₄' p hp).2⟩
    · obtain rfl : j = n1 := Nat.le_antisymm hj (Nat.not_lt.mp hlt)
      refine W.done _ _ _ hst' fun h₂ tk₂ hk₂ => ?_
      have off3 := off'.mem
      exact fin h₂ tk₂ ys news' _ (fr_but F' hk₂ (Ne.symm hIL) hI₀) (hn'.at' fun o e => hk₂ _ o (by simpa using Ne.symm hCI) e) (news_but N' hk₂ fun p hp => by
        rcases List.mem_cons.mp hp with rfl | hp
        · exact Ne.symm hDI
        · exact (off3 p hp).1) off' offI' hJ'
  exact start1_two loop (W.self 0 _ _ _ hst loop)
noncomputable def TwoSrc (prog : Program) (w : World) (A : Around) (h₀ : Heap) (L : Addr) (m : PySem.Str → Option Value) (env : Env) (elt it1 : PySem.Expr) (x0 x1 : PySem.Str) (scope : Scope) (cl : List (PySem.Str × Addr)) (y : PySem.Str) (Q : Flow → Shared → Prop) (xv : Value) (s₁ : Shared) : Prop :=
  ∃ r a0 b t u v a1 n0 n1 J news, xv = .ref r ∧ A.handled = none ∧ Fr h₀ L s₁.heap m ∧ News h₀ L s₁.heap news ∧ IsRange s₁.heap r a0 b 1 t u v ∧ Builtin.Range.small a0 b 1 = true ∧ Builtin.Range.rangeSize a0 b 1 = ((n0 : Nat) : Int) ∧
    (∀ i j ys nw, i < n0 → j < n1 → J i j ys nw → ys.length ≤ sizeLine) ∧ (∀ i ys nw, i < n0 → J i n1 ys nw → J (i + 1) 0 ys nw) ∧ J 0 0 [] news ∧
    ∀ s₂ : Shared, (∃ h, s₂ = { s₁ with heap := h }) → TwoIn prog w A h₀ L m env it1 x0 scope cl a0 a1 n0 n1 J s₂ ∧ TwoElt prog w A h₀ L m env elt x0 x1 scope cl a0 a1 n0 n1 J s₂ ∧
      ∀ D ys nw h tk, J n0 0 ys nw → Fr h₀ L h (fun z => if z = y then some (.ref D) else m z) → News h₀ L h ((D, lst ys) :: nw) → Off1 D nw → Q .next { s₂ with heap := h, toks := tk }
theorem assign_comp_two {elt it0 it1 : PySem.Expr} {x0 x1 y : PySem.Str} {p0 p1 py : Pos} {scope : Scope} {cl : List (PySem.Str × Addr)} {pos spos : Pos} {Q : Flow → Shared → Prop} (_F₀ : Fr h₀ L s.heap m) (hLe : env.locals = L)
    (hsw : swapsWith (.ListComp elt [⟨.Name x0 p0, it0, [], 0⟩, ⟨.Name x1 p1, it1, [], 0⟩] scope pos) (some (.Name y py)) spos.line env = pure true)
    (hclos : closureFor scope env = pure cl) (hcell : ∀ z ∈ scope.names, z.2 ≠ .cell) (hkind : scope.kind = .function)
    (hnames : ∀ z ∈ scope.names, z.2 = .local → scope.names.lookup z.1 = some .local) (hx0 : scope.names.lookup x0 = some .local) (hx1 : scope.names.lookup x1 = some .local) (hx01 : x0 ≠ x1)
    (hy : env.kindOf y = some .local) (hp : (env.scope.kind == .class || (env.scope.kind == .module && env.locals != env.globals)) = false)
    (h : wpAny (model prog w) A (eval it0 env) (TwoSrc prog w A h₀ L m env elt it1 x0 x1 scope cl y Q) E s)
    (hs : ∀ x, foldedSetIterable it0 env x = pure x) (hs1 : ∀ C x, foldedSetIterable it1 (compEnvC scope cl C env) x = pure x) :
    wpAny (model prog w) A (exec (.Assign [.Name y py] (.ListComp elt [⟨.Name x0 p0, it0, [], 0⟩, ⟨.Name x1 p1, it1, [], 0⟩] scope pos) spos) env) Q E s := by
  subst hLe
  rw [exec_Assign_Name_used _ _ _ _ hsw]
  refine wpAny_bind (wpAny_standAt (wpAny_bind ?_))
  show wpAny _ A (do let _ ← comprehension (.ListComp elt [⟨.Name x0 p0, it0, [], 0⟩, ⟨.Name x1 p1, it1, [], 0⟩] scope pos) scope env _ (newList []) false (eval it0 env) (some (assign (.Name y py) env))) _ _ s
  refine wpAny_bind (wpAny_mono (wpAny_comprehension_free (use := some (assign (.Name y py) env)) (Q := fun _ s' => Q .next s') rfl hs hclos hkind hnames
    (wpAny_mono h (fun xv s₁ h₁ => ?_) fun _ _ e => e)) (fun _ s' hq => wpAny_pure (wpAny_pure hq)) fun _ _ e => e)
  obtain ⟨r, a0, b, t, u, v, a1, n0, n1, J, news, rfl, hh, F, N, hr, hsm, hn, hlen, hJs, hJ, rest⟩ := h₁
  refine wpAny_pyIter_range hr hsm ?_
  obtain ⟨hIn, hE, hF⟩ := rest { s₁ with heap := s₁.heap.push { cls := .type "range_iterator", data := .fields #[rawInt a0, rawInt (Builtin.Range.rangeSize a0 b 1), rawInt 1] } } ⟨_, rfl⟩
  have W := range_walks (prog := prog) (w := w) (I := s₁.heap.objs.size) hh a0 n0
  have hstI : IsRangeIter (s₁.heap.push { cls := .type "range_iterator", data := .fields #[rawInt a0, rawInt (Builtin.Range.rangeSize a0 b 1), rawInt 1] }) s₁.heap.objs.size (a0 + ((0 : Nat) : Int) * 1) ((n0 : Int) - ((0 : Nat) : Int)) 1 := by
    show IsRangeIter _ _ _ _ _
    rw [hn]; simpa using Heap.get?_push_size _ rfl
  have Fp : Fr h₀ env.locals (s₁.heap.push { cls := .type "range_iterator", data := .fields #[rawInt a0, rawInt (Builtin.Range.rangeSize a0 b 1), rawInt 1] }) m := F.keeps fun _ _ e => Heap.get?_push_of_some _ e
  have Np : News h₀ env.locals (s₁.heap.push { cls := .type "range_iterator", data := .fields #[rawInt a0, rawInt (Builtin.Range.rangeSize a0 b 1), rawInt 1] }) news := N.grown fun _ _ e => Heap.get?_push_of_some _ e
  have hIL : s₁.heap.objs.size ≠ env.locals := Ne.symm (Nat.ne_of_lt F.ns.lt)
  have hI₀ : h₀.get? s₁.heap.objs.size = none := next_is_new F
  have offI : ∀ p ∈ news, p.1 ≠ s₁.heap.objs.size := fun p hp => Nat.ne_of_lt (Heap.lt_size (N p hp).1)
  have hIlt : s₁.heap.objs.size < (s₁.heap.push { cls := .type "range_iterator", data := .fields #[rawInt a0, rawInt (Builtin.Range.rangeSize a0 b 1), rawInt 1] }).objs.size := by rw [Heap.size_push]; exact Nat.lt_succ_self _
  generalize hI : s₁.heap.objs.size = I at *
  generalize hH : (s₁.heap.push { cls := .type "range_iterator", data := .fields #[rawInt a0, rawInt (Builtin.Range.rangeSize a0 b 1), rawInt 1] }) = H at *
  clear hI hH F N hr h
  refine wpAny_newObj_type (wpAny_newFunctionEnv hcell (by intro y hy; simp at hy) (fun h₁ hns₁ hsb₁ => ?_) hkind)
  dsimp only at hns₁ hsb₁ ⊢
  generalize hH2 : H.push { cls := .type "list", dict := none, data := .seq ([] : List Value).toArray } = H2 at hns₁ hsb₁ ⊢
  have hC : H2.objs.size = H.objs.size + 1 := by rw [← hH2, Heap.size_push]
  have hDC : H.objs.size ≠ H2.objs.size := by rw [hC]; exact Nat.ne_of_lt (Nat.lt_succ_self _)
  have below : ∀ b, b < H.objs.size → b ≠ H2.objs.size ∧ b ≠ H.objs.size := fun b hb => ⟨by rw [hC]; exact Nat.ne_of_lt (Nat.lt_succ_of_lt hb), Nat.ne_of_lt hb⟩
  have old : ∀ b o, H.get? b = some o → h₁.get? b = some o := fun b o e => hsb₁.extBut b o (below b (Heap.lt_size e)).1 (Heap.get?_push_of_some _ (hH2 ▸ Heap.get?_push_of_some _ e))
  have hacc : h₁.get? H.objs.size = some (lst []) := hsb₁.extBut _ _ hDC (Heap.get?_push_of_some _ (hH2 ▸ Heap.get?_push_size _ rfl))
  have hst₁ : IsRangeIter h₁ I (a0 + ((0 : Nat) : Int) * 1) ((n0 : Int) - ((0 : Nat) : Int)) 1 := W.frame _ _ _ hstI fun b _ o e => old b o e
  have fresh : ∀ a, H.objs.size ≤ a → H.get? a = none := fun a ha => by
    cases e : H.get? a with
    | none => rfl
    | some o' => exact absurd (Heap.lt_size e) (Nat.not_lt.mpr ha)
  have fresh₀ : ∀ a, H.objs.size ≤ a → h₀.get? a = none := fun a ha => by
    cases e : h₀.get? a with
    | none => rfl
    | some o' => have := Fp.keep a o' e; rw [fresh a ha] at this; cases this
  have hD₀ : h₀.get? H.objs.size = none := fresh₀ _ (Nat.le_refl _)
  have hC₀ : h₀.get? H2.objs.size = none := fresh₀ _ (by rw [hC]; exact Nat.le_succ _)
  have hLlt : env.locals < H.objs.size := Fp.ns.lt
  have hDL : H.objs.size ≠ env.locals := Ne.symm (below _ hLlt).2
  have hCL : H2.objs.size ≠ env.locals := Ne.symm (below _ hLlt).1
  have hCI : I ≠ H2.objs.size := (below I hIlt).1
  have hDI : I ≠ H.objs.size := (below I hIlt).2
  have off₀ : Off3 I H2.objs.size H.objs.size news := Off3.of fun p hp => ⟨offI p hp, (below _ (Heap.lt_size (Np p hp).1)).1, (below _ (Heap.lt_size (Np p hp).1)).2⟩
  generalize H.objs.size = D at *
  generalize H2.objs.size = C at *
  have end' : ∀ h' tk ys m'' news', Fr h₀ env.locals h' m → h'.Ns C m'' → News h₀ env.locals h' ((D, lst ys) :: news') → Off3 I C D news' → J n0 0 ys news' →
      compPost (model prog w) A E (some (assign (.Name y py) env)) (fun _ s' => Q .next s') (.ref D) C (.ok .next) { s₁ with heap := h', toks := tk } := by
    intro h' tk ys m'' news' F' hn N' off' hJ'
    have o3 := off'.mem
    show wpAny _ A (assign (.Name y py) env (.ref D)) _ _ _
    refine wpAny_assign_Name (wpAny_storeName_local hy F'.ns (fun h₂ hn₂ hs₂ => ?_) hp)
    have hL₀ : h₀.get? env.locals = none := Heap.get?_none_of_le F'.above
    have F₂ : Fr h₀ env.locals h₂ (fun z => if z = y then some (.ref D) else m z) := ⟨hn₂, fun b o e => hs₂.extBut b o (fun q => by rw [q, hL₀] at e; cases e) (F'.keep b o e), F'.above⟩
    refine ⟨m'', hn.sameBut hs₂ hCL, fun h'' hs'' => hF D ys news' h'' _ hJ' (F₂.change hs'' hCL hC₀) (fun p hp => ?_) off'.one⟩
    have z : h₂.get? p.1 = some p.2 := hs₂.extBut _ _ (N' p hp).2.1 (N' p hp).1
    refine ⟨hs''.extBut _ _ ?_ z, (N' p hp).2⟩
    rcases List.mem_cons.mp hp with rfl | hp
    · exact hDC
    · exact (o3 p hp).2.1
  have loop : ∀ tk, codeAny (model prog w) A (.compLoop (.ListComp elt [⟨.Name x0 p0, it0, [], 0⟩, ⟨.Name x1 p1, it1, [], 0⟩] scope pos) 0 (.ref I) (.ref D) (compEnvC scope cl C env))
        (compPost (model prog w) A E (some (assign (.Name y py) env)) (fun _ s' => Q .next s') (.ref D) C) { s₁ with heap := h₁, toks := tk } := by
    intro tk
    refine loop0_two (hf := hs1 C)
      (fun k s' => ∃ h' tk i ys m' news', s' = { s₁ with heap := h', toks := tk } ∧ i ≤ n0 ∧ k = n0 + 1 - i ∧ IsRangeIter h' I (a0 + (i : Int) * 1) ((n0 : Int) - (i : Int)) 1 ∧ Fr h₀ env.locals h' m ∧ h'.Ns C m' ∧ News h₀ env.locals h' ((D, lst ys) :: news') ∧
        Off3 I C D news' ∧ J i 0 ys news') ?_ (n0 + 1)
      ⟨h₁, tk, 0, [], _, news, rfl, Nat.zero_le _, rfl, hst₁, Fp.keeps old, hns₁, fun p hp => ?_, off₀, hJ⟩
    · rintro k s' ⟨h', tk, i, ys, m', news', rfl, hi, rfl, hst', F', hn', N', off', hJ'⟩
      by_cases hlt : i < n0
      · refine W.item i _ _ _ hlt hst' fun v h₂ tk₂ hPv hst₂ hk₂ => ?_
        obtain ⟨t9, rfl⟩ := hPv
        refine wpAny_assign_Name (wpAny_storeName_local (lookup_relabel_local hx0) (hn'.at' fun o e => hk₂ _ o (by simpa using Ne.symm hCI) e) (fun h₃ hn₃ hs₃ => ?_) (by simp [compEnvC, relabel, hkind]))
        have hst₃ : IsRangeIter h₃ I (a0 + ((i + 1 : Nat) : Int) * 1) ((n0 : Int) - ((i + 1 : Nat) : Int)) 1 := W.frame _ _ _ hst₂ fun b hb o e => hs₃.extBut b o (fun q => by
          have q' : b = C := q
          rw [q'] at hb
          exact hCI (List.mem_singleton.mp hb).symm) e
        obtain ⟨oI, heI⟩ : ∃ o, h₃.get? I = some o := ⟨_, hst₃⟩
        obtain ⟨oC, heC, hoC⟩ := ns_obj hn₃
        have F₃ : Fr h₀ env.locals h₃ m := (fr_but F' hk₂ (Ne.symm hIL) hI₀).change hs₃ hCL hC₀
        have off3 := off'.mem
        have N₂ : News h₀ env.locals h₂ ((D, lst ys) :: news') := news_but N' hk₂ fun p hp => by
          rcases List.mem_cons.mp hp with rfl | hp
          · exact Ne.symm hDI
          · exact (off3 p hp).1
        have N₃ : News h₀ env.locals h₃ ((I, oI) :: (C, oC) :: (D, lst ys) :: news') := fun p hp => by
          rcases List.mem_cons.mp hp with rfl | hp
          · exact ⟨heI, hIL, hI₀⟩
          · rcases List.mem_cons.mp hp with rfl | hp
            · exact ⟨heC, hCL, hC₀⟩
            · have z := N₂ p hp
              refine ⟨hs₃.extBut _ _ ?_ z.1, z.2⟩
              rcases List.mem_cons.mp hp with rfl | hp
              · exact hDC
              · exact (off3 p hp).2.1
        refine wpAny_mono (hIn i t9 ys news' I oI C oC D _ h₃ _ _ hlt hJ' hoC (by rw [if_pos rfl]) F₃ N₃ off' ⟨hCI, hDI, Ne.symm hDC⟩) (fun y s₄ h₄ => ?_) fun _ _ e => e
        obtain ⟨h₄, tk₄, r1, b1, t1, u1, v1, rfl, rfl, F₄, N₄, hr1, hs1', hn1⟩ := h₄
        refine wpAny_pyIter_range hr1 hs1' ?_
        have up : ∀ b o, h₄.get? b = some o → (h₄.push { cls := .type "range_iterator", data := .fields #[rawInt a1, rawInt (Builtin.Range.rangeSize a1 b1 1), rawInt 1] }).get? b = some o := fun b o e => Heap.get?_push_of_some _ e
        have N₅ := N₄.grown up
        have hlt4 : ∀ p ∈ (I, oI) :: (C, oC) :: (D, lst ys) :: news', p.1 ≠ h₄.objs.size := fun p hp => Nat.ne_of_lt (Heap.lt_size (N₄ p hp).1)
        refine inner_two (n0 := n0) (n1 := n1) (a1 := a1) (I := h₄.objs.size) (I0 := I) (o0 := oI) (m' := fun z => if z = x0 then some (.int (a0 + (i : Int)) t9) else m' z) hh hkind hx1 hx01 hlen hE hlt (t := t9) (by show IsRangeIter _ _ _ _ _; rw [hn1]; simpa using Heap.get?_push_size _ rfl) hJ' (hoC.ns (up _ _ (N₄ (C, oC) (.tail _ (.head _))).1)) (by rw [if_pos rfl]) (F₄.keeps up) (fun p hp => ?_) (Off3.of fun p hp => ?_) (fun p hp => (off3 p hp).1)
          (Ne.symm (hlt4 (C, oC) (.tail _ (.head _)))) (Ne.symm (hlt4 (D, lst ys) (.tail _ (.tail _ (.head _))))) hDC (Ne.symm (Nat.ne_of_lt F₄.ns.lt)) hCL hDL (next_is_new F₄) hC₀ hD₀ ?_
        · rcases List.mem_cons.mp hp with rfl | hp
          · exact N₅ _ (.tail _ (.tail _ (.head _)))
          · rcases List.mem_cons.mp hp with rfl | hp
            · exact N₅ _ (.head _)
            · exact N₅ _ (.tail _ (.tail _ (.tail _ hp)))
        · rcases List.mem_cons.mp hp with rfl | hp
          · exact ⟨hlt4 (I, oI) (.head _), hCI, hDI⟩
          · exact ⟨hlt4 p (.tail _ (.tail _ (.tail _ hp))), (off3 p hp).2.1, (off3 p hp).2.2⟩
        · intro h₆ tk₆ ys₆ news₆ m₆ F₆ hn₆ N₆ off₆ offI₆ hJ₆
          have o6 := off₆.mem
          have zI := (N₆ (I, oI) (.tail _ (.head _))).1
          refine ⟨n0 + 1 - (i + 1), by omega, h₆, tk₆, i + 1, ys₆, m₆, news₆, rfl, hlt, rfl, range_st (h₀ := h₀) (L := env.locals) _ _ h₆ _ [] hst₃ heI zI F₆.keep (fun p hp => by cases hp) trivial, F₆, hn₆, fun p hp => ?_, Off3.of fun p hp => ⟨offI₆ p hp, (o6 p (.tail _ hp)).2.1, (o6 p (.tail _ hp)).2.2⟩, hJs i ys₆ news₆ hlt hJ₆⟩
          rcases List.mem_cons.mp hp with rfl | hp
          · exact N₆ _ (.head _)
          · exact N₆ _ (.tail _ (.tail _ hp))
      · obtain rfl : i = n0 := Nat.le_antisymm hi (Nat.not_lt.mp hlt)
        refine W.done _ _ _ hst' fun h₂ tk₂ hk₂ => ?_
        have off3 := off'.mem
        exact end' h₂ tk₂ ys _ news' (fr_but F' hk₂ (Ne.symm hIL) hI₀) (hn'.at' fun o e => hk₂ _ o (by simpa using Ne.symm hCI) e) (news_but N' hk₂ fun p hp => by
          rcases List.mem_cons.mp hp with rfl | hp
          · exact Ne.symm hDI
          · exact (off3 p hp).1) off' hJ'
    · rcases List.mem_cons.mp hp with rfl | hp
      · exact ⟨hacc, hDL, hD₀⟩
      · exact ⟨old _ _ (Np p hp).1, (Np p hp).2⟩
  exact codeAny_compStart_list (loop _) (W.self 0 _ _ _ hst₁ (loop _))
end
end Mine
end

/- Rw -/
noncomputable section
open PySem PySem.W PySem.Spec PySem.Calls PyProof.Rows PyProof.Rows.LCg

namespace Mine
noncomputable abbrev rowT (x : Int × Int × Int) (t1 t2 t3 : Tok) : Obj := { cls := .type "tuple", data := .seq #[.int x.1 t1, .int x.2.1 t2, .int x.2.2 t3] }
noncomputable def Row (own : List (Addr × Obj)) (v : Value) (x : Int × Int × Int) : Prop := ∃ T t1 t2 t3, v = .ref T ∧ (T, rowT x t1 t2 t3) ∈ own
noncomputable def Rows (own : List (Addr × Obj)) (vs : List Value) (xs : List (Int × Int × Int)) : Prop := vs.length = xs.length ∧ ∀ (i : Nat) (v : Value), vs[i]? = some v → ∃ x, xs[i]? = some x ∧ Row own v x
theorem Row.mono {own own' : List (Addr × Obj)} {v : Value} {x : Int × Int × Int} (h : Row own v x) (hs : ∀ p ∈ own, p ∈ own') : Row own' v x := by
  obtain ⟨T, t1, t2, t3, e, hm⟩ := h
  exact ⟨T, t1, t2, t3, e, hs _ hm⟩
theorem Rows.mono {own own' : List (Addr × Obj)} {vs : List Value} {xs : List (Int × Int × Int)} (h : Rows own vs xs) (hs : ∀ p ∈ own, p ∈ own') : Rows own' vs xs := ⟨h.1, fun i v e => by
  obtain ⟨x, hx, hr⟩ := h.2 i v e
  exact ⟨x, hx, hr.mono hs⟩⟩
theorem Rows.nil {own : List (Addr × Obj)} : Rows own [] [] := ⟨rfl, fun i v e => by simp at e⟩
theorem Rows.snoc {own : List (Addr × Obj)} {vs : List Value} {xs : List (Int × Int × Int)} {v : Value} {x : Int × Int × Int} (h : Rows own vs xs) (hr : Row own v x) : Rows own (vs ++ [v]) (xs ++ [x]) := by
  refine ⟨by simp [h.1], fun i u e => ?_⟩
  by_cases hi : i < vs.length
  · rw [List.getElem?_append_left hi] at e
    rw [List.getElem?_append_left (by rw [← h.1]; exact hi)]
    exact h.2 i u e
  · rw [List.getElem?_append_right (Nat.not_lt.mp hi)] at e
    rw [List.getElem?_append_right (by rw [← h.1]; exact Nat.not_lt.mp hi), ← h.1]
    have hz : i - vs.length = 0 := by
      cases hq : i - vs.length with
      | zero => rfl
      | succ n => rw [hq] at e; simp at e
    rw [hz] at e ⊢
    have : u = v := by simpa using e.symm
    rw [this]
    exact ⟨x, rfl, hr⟩
section
variable {prog : Program} {w : World} {A : Around} {E : Value → Shared → Prop} {s s₁ : Shared} {h₀ : Heap} {L : Addr} {m : PySem.Str → Option Value} {env : Env}
theorem filt_rest {ct elt : PySem.Expr} {xn y : PySem.Str} {scope : Scope} {cl : List (PySem.Str × Addr)} {Q : Flow → Shared → Prop} {ax : Addr} {base own : List (Addr × Obj)} {vs : List Value} {xs : List (Int × Int × Int)} (test : Int × Int × Int → Bool) (hR : Rows own vs xs) (hsub : ∀ p ∈ own, p ∈ base)
    (hT : ∀ x T t1 t2 t3 I oI C oC D ys m₂ h tk (E' : Value → Shared → Prop), (T, rowT x t1 t2 t3) ∈ base → NsObj oC m₂ → m₂ xn = some (.ref T) → Fr h₀ L h m → News h₀ L h ((I, oI) :: (C, oC) :: (D, lst ys) :: base) → Off3 I C D base → ((@Ne Nat I C) ∧ (@Ne Nat I D) ∧ (@Ne Nat C D)) →
      wpAny (model prog w) A (isTrue ct (compEnvC scope cl C env) (eval ct (compEnvC scope cl C env))) (fun ok s' => if ok = true then
        wpAny (model prog w) A (eval elt (compEnvC scope cl C env)) (CompEnd h₀ L m { s with heap := h, toks := tk } I oI C oC D (lst ys) (SrcAt h₀ ax vs.toArray) (fun y nw => y = .ref T ∧ nw = base ∧ test x = true)) E' s'
        else CompEnd h₀ L m { s with heap := h, toks := tk } I oI C oC D (lst ys) (SrcAt h₀ ax vs.toArray) (fun _ nw => nw = base ∧ test x = false) Value.none s') E' { s with heap := h, toks := tk })
    (fin : ∀ ys, Rows own ys (xs.filter test) → FinA h₀ L m s y Q ys base) :
    LCt.CompRestT prog w A h₀ L m env ct elt xn scope cl s (SrcAt h₀ ax vs.toArray) (fun i v => vs.toArray[i]? = some v) (FinA h₀ L m s y Q) vs.length 0 [] base := by
  have gen : ∀ k i ys, i + k = vs.length → Rows own ys ((xs.take i).filter test) → LCt.CompRestT prog w A h₀ L m env ct elt xn scope cl s (SrcAt h₀ ax vs.toArray) (fun i v => vs.toArray[i]? = some v) (FinA h₀ L m s y Q) k i ys base := by
    intro k
    induction k with
    | zero =>
      intro i ys hi hys
      refine LCt.CompRestT.zero (fin ys ?_)
      have : xs.take i = xs := List.take_of_length_le (by rw [← hR.1]; omega)
      rw [this] at hys
      exact hys
    | succ k ih =>
      intro i ys hi hys
      refine LCt.CompRestT.succ ?_
      intro v I oI C oC D m₂ h tk E' hv hC hx F N off ne
      have hv' : vs[i]? = some v := by simpa using hv
      obtain ⟨x, hxi, T, t1, t2, t3, rfl, hm⟩ := hR.2 i v hv'
      have hi' : i < xs.length := by
        rcases Nat.lt_or_ge i xs.length with h | h
        · exact h
        · rw [List.getElem?_eq_none h] at hxi; cases hxi
      have e1 : xs.take (i + 1) = xs.take i ++ [x] := by
        rw [List.take_add_one, hxi]; rfl
      refine wpAny_mono (hT x T t1 t2 t3 I oI C oC D ys m₂ h tk E' (hsub _ hm) hC hx F N off ne) (fun ok s' hq => ?_) fun _ _ e => e
      cases ok with
      | true =>
        simp only [if_true] at hq ⊢
        refine wpAny_mono hq (fun y s₂ hc => ?_) fun _ _ e => e
        obtain ⟨h', tk', nw, e, F', N', off', S', rfl, rfl, ht⟩ := hc
        refine ⟨h', tk', _, e, F', N', off', S', ih (i + 1) _ (by omega) ?_⟩
        rw [e1, List.filter_append]
        have : [x].filter test = [x] := by simp [ht]
        rw [this]
        exact hys.snoc ⟨T, t1, t2, t3, rfl, hm⟩
      | false =>
        simp only [Bool.false_eq_true, if_false] at hq ⊢
        obtain ⟨h', tk', nw, e, F', N', off', S', rfl, ht⟩ := hq
        refine ⟨h', tk', _, e, F', N', off', S', ih (i + 1) _ (by omega) ?_⟩
        rw [e1, List.filter_append]
        have : [x].filter test = [] := by simp [ht]
        rw [this, List.append_nil]
        exact hys
  exact gen vs.length 0 [] (by omega) Rows.nil
theorem filt_src {ct elt : PySem.Expr} {xn y : PySem.Str} {scope : Scope} {cl : List (PySem.Str × Addr)} {Q : Flow → Shared → Prop} {ax : Addr} {base own : List (Addr × Obj)} {vs : List Value} {xs : List (Int × Int × Int)} (test : Int × Int × Int → Bool) (hh : A.handled = none) (F₀ : Fr h₀ L s.heap m) (N₀ : News h₀ L s.heap base) (hm : (ax, lst vs) ∈ base) (hz : xs.length ≤ sizeLine) (hR : Rows own vs xs) (hsub : ∀ p ∈ own, p ∈ base)
    (hT : ∀ x T t1 t2 t3 I oI C oC D ys m₂ h tk (E' : Value → Shared → Prop), (T, rowT x t1 t2 t3) ∈ base → NsObj oC m₂ → m₂ xn = some (.ref T) → Fr h₀ L h m → News h₀ L h ((I, oI) :: (C, oC) :: (D, lst ys) :: base) → Off3 I C D base → ((@Ne Nat I C) ∧ (@Ne Nat I D) ∧ (@Ne Nat C D)) →
      wpAny (model prog w) A (isTrue ct (compEnvC scope cl C env) (eval ct (compEnvC scope cl C env))) (fun ok s' => if ok = true then
        wpAny (model prog w) A (eval elt (compEnvC scope cl C env)) (CompEnd h₀ L m { s with heap := h, toks := tk } I oI C oC D (lst ys) (SrcAt h₀ ax vs.toArray) (fun y nw => y = .ref T ∧ nw = base ∧ test x = true)) E' s'
        else CompEnd h₀ L m { s with heap := h, toks := tk } I oI C oC D (lst ys) (SrcAt h₀ ax vs.toArray) (fun _ nw => nw = base ∧ test x = false) Value.none s') E' { s with heap := h, toks := tk })
    (fin : ∀ ys D h tk, Rows own ys (xs.filter test) → Fr h₀ L h (fun z => if z = y then some (.ref D) else m z) → News h₀ L h ((D, lst ys) :: base) → Off1 D base → Q .next { s with heap := h, toks := tk }) :
    LCt.CompSrcT prog w A h₀ L m env ct elt xn scope cl (fun s₂ => FinA h₀ L m s₂ y Q) (.ref ax) s :=
  LCt.CompSrcT.ledger (its := vs.toArray) (k := vs.length) hh F₀ N₀ hm (by rw [List.size_toArray, hR.1]; exact hz) fun g => filt_rest test hR hsub hT fun ys hy D h tk F N o => fin ys D h tk hy F N o

/-- a sum, kept shut: the walk's `generalize` must not look into it -/
@[irreducible] noncomputable def plus (a b : Int) : Int := a + b
theorem plus_def (a b : Int) : plus a b = a + b := by unfold plus; rfl
/-- the local names of a loop: what stands in `vars` may have changed -/
noncomputable def ovr : List PySem.Str → (PySem.Str → Option Value) → (PySem.Str → Option Value) → PySem.Str → Option Value
  | [], _, m, z => m z
  | x :: xs, u, m, z => if z = x then u z else ovr xs u m z
theorem ovr_self {m m₀ : PySem.Str → Option Value} : ∀ {vars : List PySem.Str}, (∀ z, z ∉ vars → m z = m₀ z) → ovr vars m m₀ = m := by
  intro vars h
  funext z
  induction vars with
  | nil => exact (h z (by simp)).symm
  | cons x xs ih =>
    show (if z = x then m z else ovr xs m m₀ z) = m z
    by_cases e : z = x
    · rw [if_pos e]
    · rw [if_neg e]
      by_cases hz : z ∈ xs
      · clear ih h
        induction xs with
        | nil => cases hz
        | cons y ys ih2 =>
          show (if z = y then m z else ovr ys m m₀ z) = m z
          by_cases e2 : z = y
          · rw [if_pos e2]
          · rw [if_neg e2]
            rcases List.mem_cons.mp hz with h | h
            · exact absurd h e2
            · exact ih2 h
      · have : ∀ l : List PySem.Str, z ∉ l → ovr l m m₀ z = m₀ z := by
          intro l
          induction l with
          | nil => intro _; rfl
          | cons y ys ih2 =>
            intro hl
            show (if z = y then m z else ovr ys m m₀ z) = m₀ z
            rw [if_neg (fun e2 => hl (by rw [e2]; exact .head _))]
            exact ih2 (fun h => hl (.tail _ h))
        rw [this xs hz]
        exact (h z (by simp [e, hz])).symm
noncomputable def RowEnd (h₀ : Heap) (L : Addr) (c : PySem.Str) (vars : List PySem.Str) (m₀ : PySem.Str → Option Value) (all : List (Addr × Obj)) (k : Int) (s₁ s₂ : Shared) : Prop :=
  ∃ h' tk m' t, s₂ = { s₁ with heap := h', toks := tk } ∧ Fr h₀ L h' m' ∧ News h₀ L h' all ∧ (∀ z, z ≠ c → z ∉ vars → m' z = m₀ z) ∧ m' c = some (.int k t)
theorem RowEnd.intro {c : PySem.Str} {vars : List PySem.Str} {m₀ m' : PySem.Str → Option Value} {all : List (Addr × Obj)} {k k' : Int} {t : Tok} {h' : Heap} {tk : Nat} (F : Fr h₀ L h' m') (N : News h₀ L h' all) (hm : ∀ z, z ≠ c → z ∉ vars → m' z = m₀ z) (hc : m' c = some (.int k' t)) (hk : k' = k) :
    RowEnd h₀ L c vars m₀ all k s₁ { s₁ with heap := h', toks := tk } := ⟨h', tk, m', t, rfl, F, N, hm, hk ▸ hc⟩
noncomputable def RowPost (h₀ : Heap) (L : Addr) (c : PySem.Str) (vars : List PySem.Str) (m₀ : PySem.Str → Option Value) (all : List (Addr × Obj)) (k : Int) (s₁ : Shared) (Q : Flow → Shared → Prop) (f : Flow) (s₂ : Shared) : Prop :=
  match f with
  | .ret v => Q (.ret v) s₂
  | .brk => Q .next s₂
  | _ => RowEnd h₀ L c vars m₀ all k s₁ s₂
theorem rows_turns {target : PySem.Expr} {body : List Stmt} {Q : Flow → Shared → Prop} {D : Addr} {vs : List Value} {xs : List (Int × Int × Int)} {base : List (Addr × Obj)} {m₀ : PySem.Str → Option Value} {c0 : Int} {t0 : Tok} (g : Int × Int × Int → Int) (c : PySem.Str) (vars : List PySem.Str) (hh : A.handled = none) (F : Fr h₀ env.locals s.heap m₀) (N : News h₀ env.locals s.heap base) (hm : (D, lst vs) ∈ base) (hR : Rows base vs xs) (hc : m₀ c = some (.int c0 t0))
    (turn : ∀ x T t1 t2 t3 k t u h tk own, x ∈ xs → (T, rowT x t1 t2 t3) ∈ base → Fr h₀ env.locals h (fun z => if z = c then some (.int k t) else ovr vars u m₀ z) → News h₀ env.locals h (base ++ own) →
      wpAny (model prog w) A (assign target env (.ref T)) (fun _ s₃ => wpAny (model prog w) A (execs body env) (RowPost h₀ env.locals c vars m₀ (base ++ own) (plus k (g x)) { s with heap := h, toks := tk } Q) E s₃) E { s with heap := h, toks := tk })
    (done : ∀ u t h tk, Fr h₀ env.locals h (fun z => if z = c then some (.int (plus c0 ((xs.map g).sum)) t) else ovr vars u m₀ z) → News h₀ env.locals h base → Q .next { s with heap := h, toks := tk }) :
    wpAny (model prog w) A (pyIter (.ref D)) (fun it s₂ => TurnsAt prog w A h₀ env target body Q E it s₂) E s := by
  have hax := N _ hm
  have hl : s.heap.IsList D vs.toArray := ⟨_, hax.1, rfl, _, rfl⟩
  have hlt : D < s.heap.objs.size := Heap.lt_size hax.1
  have hne : D ≠ s.heap.objs.size := Nat.ne_of_lt hlt
  have shape : ∀ (m₁ : PySem.Str → Option Value) (k : Int) (t : Tok), (∀ z, z ≠ c → z ∉ vars → m₁ z = m₀ z) → m₁ c = some (.int k t) → m₁ = fun z => if z = c then some (.int k t) else ovr vars m₁ m₀ z := by
    intro m₁ k t h1 h2
    funext z
    by_cases e : z = c
    · rw [if_pos e, e, h2]
    · rw [if_neg e]
      have h3 : ∀ z', z' ∉ vars → m₁ z' = (fun z' => if z' = c then m₁ z' else m₀ z') z' := by
        intro z' hz'
        dsimp only
        by_cases e' : z' = c
        · rw [if_pos e']
        · rw [if_neg e']; exact h1 z' e' hz'
      have h4 := congrFun (ovr_self (m := m₁) (m₀ := fun z' => if z' = c then m₁ z' else m₀ z') h3) z
      rw [← h4]
      clear h4 h3 h1 h2 turn done
      induction vars with
      | nil => show (if z = c then m₁ z else m₀ z) = m₀ z; rw [if_neg e]
      | cons y ys ih =>
        show (if z = y then m₁ z else ovr ys _ _ z) = if z = y then m₁ z else ovr ys _ _ z
        rw [ih]
  refine wpAny_pyIter_list hl ?_
  refine ⟨s.heap.objs.size, _, _, vs.toArray.size, _, _, _, m₀, base, fun i m₁ nx => nx = base ∧ (∀ z, z ≠ c → z ∉ vars → m₁ z = m₀ z) ∧ ∃ t, m₁ c = some (.int (c0 + ((xs.take i).map g).sum) t), rfl, KTurns.ofWalks (Walks.list hh s.heap.objs.size D hne vs.toArray) fun i v s Q E st q => letGo_listiter st.1 q, ?_, ?_, ?_, ⟨⟨_, Heap.get?_push_size _ rfl, rfl, rfl⟩, hl.at fun o e => Heap.get?_push_of_some _ e⟩, F.push _, (fun p hp => ⟨Heap.get?_push_of_some _ (N p hp).1, (N p hp).2⟩), ⟨rfl, fun _ _ _ => rfl, t0, by simpa using hc⟩, ?_, ?_⟩
  · intro hI
    rcases List.mem_cons.mp hI with e | hI
    · exact absurd F.ns.lt (e ▸ Nat.lt_irrefl _)
    · exact hax.2.1 (List.mem_singleton.mp hI).symm
  · intro b hb
    rw [List.mem_singleton.mp hb]
    exact next_is_new F
  · intro p hp hI
    exact absurd (Heap.lt_size (N p hp).1) ((List.mem_singleton.mp hI) ▸ Nat.lt_irrefl _)
  · rintro i v m₁ nx h tk own hi hP ⟨rfl, hmz, t, hmc⟩ hoff _ _ _ _ F₁ N₁
    have hv : vs[i]? = some v := by
      have : vs.toArray[i]? = some v := hP
      simpa using this
    obtain ⟨x, hxi, T, t1, t2, t3, rfl, hmT⟩ := hR.2 i v hv
    rw [shape m₁ _ t hmz hmc] at F₁
    have e1 : ((xs.take (i + 1)).map g).sum = ((xs.take i).map g).sum + g x := by
      rw [List.take_add_one, hxi]; simp
    refine wpAny_mono (turn x T t1 t2 t3 _ t m₁ h tk own (List.mem_of_getElem? hxi) hmT F₁ (fun p hp => N₁ p ((List.mem_append.mp hp).elim (fun h => List.mem_append_right _ h) fun h => List.mem_append_left _ h))) (fun _ s₃ h₃ => wpAny_mono h₃ (fun f s₄ h₄ => ?_) fun _ _ e => e) fun _ _ e => e
    have fin : RowEnd h₀ env.locals c vars m₀ (nx ++ own) (c0 + ((xs.take i).map g).sum + g x) { s with heap := h, toks := tk } s₄ → LoopStepU h₀ env.locals [s.heap.objs.size] own (fun m₁ nx' => nx' = nx ∧ (∀ z, z ≠ c → z ∉ vars → m₁ z = m₀ z) ∧ ∃ t, m₁ c = some (.int (c0 + ((xs.take (i + 1)).map g).sum) t)) { s with heap := h, toks := tk } .next s₄ := by
      rintro ⟨h', tk', m', t', e, F', N', hz', hc'⟩
      exact ⟨rfl, h', tk', m', nx, e, F', fun p hp => N' p ((List.mem_append.mp hp).elim (fun h => List.mem_append_right _ h) fun h => List.mem_append_left _ h), hoff, rfl, hz', t', by rw [e1, ← Int.add_assoc]; exact hc'⟩
    rw [plus_def] at h₄
    cases f with
    | ret v => exact h₄
    | brk => exact h₄
    | next => exact fin h₄
    | cont => exact fin h₄
  · rintro h' tk m' nx F' N' _ ⟨rfl, hmz, t, hmc⟩
    have e2 : xs.take vs.toArray.size = xs := List.take_of_length_le (by rw [List.size_toArray, hR.1]; exact Nat.le_refl _)
    rw [e2] at hmc
    rw [shape m' _ t hmz hmc, ← plus_def] at F'
    exact done m' t h' tk F' N'
end
end Mine
end

/- Ft -/
noncomputable section
open PySem PySem.W PySem.Spec PySem.Calls PyProof.Rows PyProof.Rows.LCg

namespace Mine
noncomputable def spotAt (p q r x y : Int) : Int × Int × Int := (p * x * x + q * y * y + r * (x - y) * (x - y), x, y)
noncomputable def rowTo (p q r x : Int) (j : Nat) : List (Int × Int × Int) := (List.range j).map fun b : Nat => spotAt p q r x (-4 + (b : Int))
noncomputable def upTo (p q r : Int) (i j : Nat) : List (Int × Int × Int) := (List.range i).flatMap (fun a : Nat => rowTo p q r (-4 + (a : Int)) 9) ++ rowTo p q r (-4 + (i : Int)) j
noncomputable def spotsL (p q r : Int) : List (Int × Int × Int) := upTo p q r 9 0
theorem rowTo_succ {p q r x : Int} {j : Nat} : rowTo p q r x (j + 1) = rowTo p q r x j ++ [spotAt p q r x (-4 + (j : Int))] := by
  unfold rowTo; rw [List.range_succ, List.map_append]; rfl
theorem rowTo_len {p q r x : Int} {j : Nat} : (rowTo p q r x j).length = j := by simp [rowTo]
theorem upTo_snoc {p q r : Int} {i j : Nat} : upTo p q r i (j + 1) = upTo p q r i j ++ [spotAt p q r (-4 + (i : Int)) (-4 + (j : Int))] := by
  unfold upTo; rw [rowTo_succ, List.append_assoc]
theorem upTo_next {p q r : Int} {i : Nat} : upTo p q r i 9 = upTo p q r (i + 1) 0 := by
  unfold upTo; rw [List.range_succ, List.flatMap_append]; simp [rowTo]
theorem upTo_len {p q r : Int} {i j : Nat} : (upTo p q r i j).length = 9 * i + j := by
  induction i with
  | zero => simp [upTo, rowTo_len]
  | succ i ih =>
    unfold upTo at ih ⊢
    rw [List.length_append, rowTo_len] at ih ⊢
    rw [List.range_succ, List.flatMap_append, List.length_append]
    have : (List.flatMap (fun a : Nat => rowTo p q r (-4 + (a : Int)) 9) [i]).length = 9 := by simp [rowTo_len]
    omega
noncomputable def EltEnd (h₀ : Heap) (L : Addr) (m : PySem.Str → Option Value) (s₁ : Shared) (all : List (Addr × Obj)) (x : Int × Int × Int) (y : Value) (s₂ : Shared) : Prop :=
  ∃ h' tk T t1 t2 t3, y = .ref T ∧ s₂ = { s₁ with heap := h', toks := tk } ∧ Fr h₀ L h' m ∧ News h₀ L h' ((T, rowT x t1 t2 t3) :: all) ∧ AllLt T all
theorem EltEnd.intro {h₀ : Heap} {L : Addr} {m : PySem.Str → Option Value} {s₁ : Shared} {all : List (Addr × Obj)} {x : Int × Int × Int} {h' : Heap} {tk : Nat} {T : Addr} {a b c : Int} {t1 t2 t3 : Tok} (F : Fr h₀ L h' m) (N : News h₀ L h' ((T, rowT (a, b, c) t1 t2 t3) :: all)) (hl : AllLt T all) (hx : (a, b, c) = x) :
    EltEnd h₀ L m s₁ all x (.ref T) { s₁ with heap := h', toks := tk } := ⟨h', tk, T, t1, t2, t3, rfl, rfl, F, hx ▸ N, hl⟩
theorem TwoSrc.mk {prog : Program} {w : World} {A : Around} {s₁ : Shared} {h₀ : Heap} {L : Addr} {m : PySem.Str → Option Value} {env : Env} {elt it1 : PySem.Expr} {x0 x1 y : PySem.Str} {scope : Scope} {cl : List (PySem.Str × Addr)} {Q : Flow → Shared → Prop} {rr : Addr} {t u v : Tok} {base : List (Addr × Obj)} (p q r : Int)
    (hh : A.handled = none) (F₀ : Fr h₀ L s₁.heap m) (N₀ : News h₀ L s₁.heap base) (hr : IsRange s₁.heap rr (-4) 5 1 t u v)
    (hIn : ∀ own I oI C oC D ys m₂ h tk (E' : Value → Shared → Prop), NsObj oC m₂ → Fr h₀ L h m → News h₀ L h ((I, oI) :: (C, oC) :: (D, lst ys) :: (base ++ own)) → Off3 I C D (base ++ own) → ((@Ne Nat I C) ∧ (@Ne Nat I D) ∧ (@Ne Nat C D)) →
      wpAny (model prog w) A (eval it1 (compEnvC scope cl C env)) (RangeEnd h₀ L m { s₁ with heap := h, toks := tk } (-4) 9 ((I, oI) :: (C, oC) :: (D, lst ys) :: (base ++ own))) E' { s₁ with heap := h, toks := tk })
    (hEl : ∀ own (i j : Int) t u ys I oI C oC D I0 o0 m₂ h tk (E' : Value → Shared → Prop), -4 ≤ i → i ≤ 4 → -4 ≤ j → j ≤ 4 → NsObj oC m₂ → m₂ x0 = some (.int i t) → m₂ x1 = some (.int j u) → Fr h₀ L h m → News h₀ L h ((I, oI) :: (C, oC) :: (D, lst ys) :: (I0, o0) :: (base ++ own)) → Off3 I C D ((I0, o0) :: (base ++ own)) → ((@Ne Nat I C) ∧ (@Ne Nat I D) ∧ (@Ne Nat C D)) →
      wpAny (model prog w) A (eval elt (compEnvC scope cl C env)) (EltEnd h₀ L m { s₁ with heap := h, toks := tk } ((I, oI) :: (C, oC) :: (D, lst ys) :: (I0, o0) :: (base ++ own)) (spotAt p q r i j)) E' { s₁ with heap := h, toks := tk })
    (fin : ∀ D ys own h tk, Rows own ys (spotsL p q r) → Fr h₀ L h (fun z => if z = y then some (.ref D) else m z) → News h₀ L h ((D, lst ys) :: (base ++ own)) → Off1 D (base ++ own) → Q .next { s₁ with heap := h, toks := tk }) :
    TwoSrc prog w A h₀ L m env elt it1 x0 x1 scope cl y Q (.ref rr) s₁ := by
  refine ⟨rr, -4, 5, t, u, v, -4, 9, 9, fun i j ys nw => ∃ own, nw = base ++ own ∧ Rows own ys (upTo p q r i j), base, rfl, hh, F₀, N₀, hr, by decide, by decide, ?_, ?_, ⟨[], by simp, by simpa [upTo, rowTo] using Rows.nil⟩, ?_⟩
  · rintro i j ys nw hi hj ⟨own, rfl, hR⟩
    rw [hR.1, upTo_len]
    exact Nat.le_trans (by omega : 9 * i + j ≤ 81) (by decide)
  · rintro i ys nw hi ⟨own, rfl, hR⟩
    exact ⟨own, rfl, upTo_next ▸ hR⟩
  · rintro s₂ ⟨g, rfl⟩
    refine ⟨?_, ?_, ?_⟩
    · rintro i t' ys nw I oI C oC D m₂ h tk E' _ ⟨own, rfl, hR⟩ hC _ F N off ne
      exact hIn own I oI C oC D ys m₂ h tk E' hC F N off ne
    · rintro i j t' u' ys nw I oI C oC D I0 o0 m₂ h tk E' hi hj ⟨own, rfl, hR⟩ hC h0 h1 F N off ne hI0
      refine wpAny_mono (hEl own _ _ t' u' ys I oI C oC D I0 o0 m₂ h tk E' (by omega) (by omega) (by omega) (by omega) hC h0 h1 F N off ne) (fun y s₃ h₃ => ?_) fun _ _ e => e
      obtain ⟨h', tk', T, t1, t2, t3, rfl, rfl, F', N', hlt⟩ := h₃
      have hl : ∀ p ∈ (I, oI) :: (C, oC) :: (D, lst ys) :: (I0, o0) :: (base ++ own), p.1 ≠ T := fun p hp => Nat.ne_of_lt (kst_ltOf hlt p hp)
      refine ⟨h', tk', (I0, o0) :: (base ++ (own ++ [(T, rowT (spotAt p q r (-4 + (i : Int)) (-4 + (j : Int))) t1 t2 t3)])), rfl, F', fun p hp => N' p ?_, ?_, trivial, base ++ (own ++ [(T, rowT (spotAt p q r (-4 + (i : Int)) (-4 + (j : Int))) t1 t2 t3)]), rfl, ?_, own ++ [(T, rowT (spotAt p q r (-4 + (i : Int)) (-4 + (j : Int))) t1 t2 t3)], rfl, ?_⟩
      · simp only [List.mem_cons, List.mem_append, List.not_mem_nil, or_false] at hp ⊢
        rcases hp with h | h | h | h | h | h | h
        · exact .inr (.inl h)
        · exact .inr (.inr (.inl h))
        · exact .inr (.inr (.inr (.inl h)))
        · exact .inr (.inr (.inr (.inr (.inl h))))
        · exact .inr (.inr (.inr (.inr (.inr (.inl h)))))
        · exact .inr (.inr (.inr (.inr (.inr (.inr h)))))
        · exact .inl h
      · refine Off3.of fun p hp => ?_
        have o := off.mem
        simp only [List.mem_cons, List.mem_append, List.not_mem_nil, or_false] at hp
        rcases hp with h | h | h | h
        · exact o p (by rw [h]; exact .head _)
        · exact o p (.tail _ (List.mem_append_left _ h))
        · exact o p (.tail _ (List.mem_append_right _ h))
        · rw [h]
          exact ⟨Ne.symm (hl _ (.head _)), Ne.symm (hl _ (.tail _ (.head _))), Ne.symm (hl _ (.tail _ (.tail _ (.head _))))⟩
      · intro p hp
        simp only [List.mem_append, List.mem_singleton] at hp
        rcases hp with h | h | h
        · exact hI0 p (List.mem_append_left _ h)
        · exact hI0 p (List.mem_append_right _ h)
        · rw [h]
          exact Ne.symm (hl _ (.tail _ (.tail _ (.tail _ (.head _)))))
      · show Rows _ _ (upTo p q r i (j + 1))
        rw [upTo_snoc]
        exact (hR.mono fun p hp => List.mem_append_left _ hp).snoc ⟨T, t1, t2, t3, rfl, List.mem_append_right _ (.head _)⟩
    · rintro D ys nw h tk ⟨own, rfl, hR⟩ F N off
      exact fin D ys own h tk hR F N off
end Mine
end

/- Fits -/
noncomputable section
open PySem PySem.W PySem.Spec PySem.Calls PyProof.Rows

namespace Mine
theorem isList_mem {h₀ h : Heap} {L : Addr} {nw : List (Addr × Obj)} {a : Addr} {vs : Array Value} {c : Nat} (N : News h₀ L h nw) (hm : (a, PySem.W.listOf vs c) ∈ nw) : h.IsList a vs := ⟨_, N.get hm, rfl, _, rfl⟩
theorem isTup_mem {h₀ h : Heap} {L : Addr} {nw : List (Addr × Obj)} {a : Addr} {x : Int × Int × Int} {t1 t2 t3 : Tok} (N : News h₀ L h nw) (hm : (a, rowT x t1 t2 t3) ∈ nw) : IsTup h a #[.int x.1 t1, .int x.2.1 t2, .int x.2.2 t3] := News.isTup N hm
theorem all_ne_cons {d : Addr} {q : Addr × Obj} {l : List (Addr × Obj)} (h : q.1 ≠ d) (t : ∀ p ∈ l, p.1 ≠ d) : ∀ p ∈ q :: l, p.1 ≠ d := fun p hp => by
  rcases List.mem_cons.mp hp with e | hp
  · rw [e]; exact h
  · exact t p hp
theorem all_ne_lt {d D : Addr} {l : List (Addr × Obj)} (h : ∀ p ∈ l, p.1 < D) (hd : D ≤ d) : ∀ p ∈ l, p.1 ≠ d := fun p hp => Nat.ne_of_lt (Nat.lt_of_lt_of_le (h p hp) hd)
local macro_rules | `(tactic| k_all) => `(tactic| walk_at "mine all_ne")
local macro_rules | `(tactic| walk_at $s:str) => `(tactic| k_extra $s)
noncomputable def Hold (p : Prop) : Prop := p
theorem Hold.mk {p : Prop} (h : Hold p) : p := h
theorem spots_small {p q r : Int} : (spotsL p q r).length ≤ sizeLine := by
  unfold spotsL; rw [upTo_len]; decide
theorem tup_unpack {prog : Program} {w : World} {A : Around} {E : Value → Shared → Prop} {s : Shared} {h₀ : Heap} {L : Addr} {m : PySem.Str → Option Value} {news : List (Addr × Obj)} {env : Env} {elts : List PySem.Expr} {kk : Nat} {pos : Pos} {l : Addr} {x : Int × Int × Int} {t1 t2 t3 : Tok} {Q : Unit → Shared → Prop} (F : Fr h₀ L s.heap m) (N : News h₀ L s.heap news) (hm : (l, rowT x t1 t2 t3) ∈ news) (hh : A.handled = none) (hn : (assignEach elts env).length = 3) (hst : (assignEach elts env).findIdx? (·.1) = none)
    (h : ∀ h', Fr h₀ L h' m → News h₀ L h' news → wpAny (model prog w) A (assignInOrder ((assignEach elts env).map (·.2)) [.int x.1 t1, .int x.2.1 t2, .int x.2.2 t3]) Q E { s with heap := h' }) :
    wpAny (model prog w) A (assign (.Tuple elts kk pos) env (.ref l)) Q E s := unpackN_ F N (isTup_mem N hm) hh hn hst h
@[irreducible] noncomputable def hit (p q r v : Int) (x z : Int × Int × Int) : Int := if (if x.2.1 * z.2.2 - x.2.2 * z.2.1 < 0 then -(x.2.1 * z.2.2 - x.2.2 * z.2.1) else x.2.1 * z.2.2 - x.2.2 * z.2.1) = 1 ∧ p * x.2.1 * z.2.1 + q * x.2.2 * z.2.2 + r * (x.2.1 - x.2.2) * (z.2.1 - z.2.2) = -v then 1 else 0
@[irreducible] noncomputable def firstsOf (p q r k : Int) : List (Int × Int × Int) := (spotsL p q r).filter fun x => decide (x.1 = k)
@[irreducible] noncomputable def hitsOf (p q r t v : Int) (x : Int × Int × Int) : Int := ((firstsOf p q r (t + v)).map (hit p q r v x)).sum
theorem gen_toks {α : Type} {M : Model} {A : Around} {x : Sem α} {Q : α → Shared → Prop} {E : Value → Shared → Prop} {h g d t os} (H : ∀ tk, wpAny M A x Q E ⟨h, g, d, tk, os⟩) : wpAny M A x Q E ⟨h, g, d, t, os⟩ := H t
noncomputable def fitsOf (p q r s t v : Int) : Int := ((firstsOf p q r (s + v)).map (hitsOf p q r t v)).sum
theorem spots_bd {p q r : Int} {x : Int × Int × Int} (h : x ∈ spotsL p q r) : (-4 ≤ x.2.1 ∧ x.2.1 ≤ 4) ∧ -4 ≤ x.2.2 ∧ x.2.2 ≤ 4 := by
  unfold spotsL upTo rowTo spotAt at h
  simp only [List.mem_append, List.mem_flatMap, List.mem_map, List.mem_range] at h
  rcases h with ⟨i, hi, j, hj, rfl⟩ | ⟨j, hj, rfl⟩
  · dsimp only; omega
  · omega
theorem firsts_bd {p q r k : Int} {x : Int × Int × Int} (h : x ∈ firstsOf p q r k) : (-4 ≤ x.2.1 ∧ x.2.1 ≤ 4) ∧ -4 ≤ x.2.2 ∧ x.2.2 ≤ 4 := by
  unfold firstsOf at h
  exact spots_bd (List.mem_filter.mp h).1
theorem mulok_r {a b : Int} (h1 : -4 ≤ b) (h2 : b ≤ 4) : IntMulOk a b := IntMulOk.of_right (intBits_le_64 (by omega) (by omega))
theorem mulok_s {a b c : Int} (h1 : -4 ≤ b) (h2 : b ≤ 4) (h3 : -4 ≤ c) (h4 : c ≤ 4) : IntMulOk a (b - c) := IntMulOk.of_right (intBits_le_64 (by omega) (by omega))
theorem Hold.to {p : Prop} (h : p) : Hold p := h
theorem Hold.of {p : Prop} (h : Hold p) : p := h
theorem ite_both {c : Prop} [Decidable c] {a b : Prop} (h1 : c → a) (h2 : ¬ c → b) : if c then a else b := by
  split
  · exact h1 (by assumption)
  · exact h2 (by assumption)
theorem ite_tt0 {a b : Prop} (h : a) : if true = true then a else b := by rw [if_pos rfl]; exact h
theorem fits_spec (w : World) (mean : ExcName → Option Value) (mg mb : PySem.Str → Option Value) (news : List (Addr × Obj)) (l1 l2 : Addr) (p q r s₁ t₁ v₁ : Int) (t1 t2 t3 t4 t5 t6 : Tok) (c1 c2 : Nat)
    (h1 : (l1, PySem.W.listOf #[.int p t1, .int q t2, .int r t3] c1) ∈ news) (h2 : (l2, PySem.W.listOf #[.int s₁ t4, .int t₁ t5, .int v₁ t6] c2) ∈ news) :
    Spec w mean mg mb 1 111 news [.ref l1, .ref l2] (fun v nx => ∃ t', v = .int (fitsOf p q r s₁ t₁ v₁) t' ∧ nx = news) := by
  unfold Spec; k_fill; w_top off
  intro dp un gd cn cs a ccd cl outer A₀ base h₀ L m s Q E B F X N T hk hd hu hret
  k_with_none
  k_with "mine ce_close" => (refine' LCg.CompEnd.intro ?wF ?wN _ (fun _ hp => hp) ?woff ?_ ?_; (case wF => k_asm); (case wN => k_asm); (case woff => first | assumption | (simp only [LCg.Off3]; assumption) | (simp only [LCg.Off3, and_true]; assumption)); rotate_left; rotate_left)
  k_with "mine mem_tail" => repeat (first | assumption | refine List.Mem.tail _ ?_)
  k_with "mine all_ne" => first | (refine all_ne_lt (by assumption) ?_; show (_ : Nat) ≤ _; omega) | (refine all_ne_cons ?_ ?_; (focus k_ne); walk_at "mine all_ne")
  k_with "assign Tuple" => (k_here; (with_reducible show wpAny _ _ (assign (Expr.Tuple _ _ _) _ (Value.ref _)) _ _ _); k_dflt (refine' kun_list ?wk1 ?wk2 ?wk3 ?wk4 ?wk5 ?wk6 ?_; (case wk1 => k_asm); (case wk2 => k_asm); (case wk3 => (refine' isList_mem ?wq1 ?wq2; (case wq1 => k_asm); (case wq2 => walk_at "mine mem_tail"))); (case wk4 => exact rfl); (case wk5 => exact rfl); (case wk6 => exact rfl); k_whole); intro h' F' N'; (try k_sweep))
  k_with "exec Assign cons ListComp" => (k_here; (with_reducible show wpAny _ _ (exec (Stmt.Assign _ (Expr.ListComp _ (_ :: _ :: _) _ _) _) _) _ _ _); k_dflt (refine assign_comp_two (by k_asm) (by rfl) (by with_unfolding_all rfl) (by with_unfolding_all rfl) (by decide) (by rfl) (by decide) (by rfl) (by rfl) (by decide) (by rfl) (by rfl) ?_ (by intro _; rfl) (by intro _ _; rfl)))
  k_with "TwoSrc" => (k_here; k_dflt (refine' TwoSrc.mk p q r (by rfl) ?wF ?wN ?whr (Hold.mk ?_) (Hold.mk ?_) (Hold.mk ?_); (case wF => k_asm); (case wN => k_asm); (case whr => assumption)))
  k_with "subscriptTail" => (k_here; (with_reducible show wpAny _ _ (subscriptTail _ _ (Value.ref _) (Value.int _ _)) _ _ _); k_dflt (refine' item_tupleT ?wt ?wa ?wb ?wc ?wd ?_; (case wt => (refine' isTup_mem ?wq1 ?wq2; (case wq1 => k_asm); (case wq2 => walk_at "mine mem_tail"))); (case wa => decide); (case wb => decide); (case wc => rfl); (case wd => rfl); k_whole))
  k_with "CompSrcT" => (k_here; refine Hold.mk ?_)
  k_with "exec For Tuple" => (k_here; (with_reducible show wpAny _ _ (exec (Stmt.For (Expr.Tuple _ _ _) _ _ [] _) _) _ _ _); k_dflt (refine For_turns (by k_asm) ?_))
  k_with "exec For" => (k_here; (with_reducible show wpAny _ _ (exec (Stmt.For (Expr.Tuple _ _ _) _ _ [] _) _) _ _ _); k_dflt (refine For_turns (by k_asm) ?_))
  k_with "pyIter ref" => (k_here; (with_reducible show wpAny _ _ (pyIter (Value.ref _)) (fun it s₂ => TurnsAt _ _ _ _ _ _ _ _ _ it s₂) _ _); refine Hold.mk ?_)
  k_with "assign Tuple" => (k_here; (with_reducible show wpAny _ _ (assign (Expr.Tuple _ _ _) _ (Value.ref _)) _ _ _); k_dflt (refine' tup_unpack ?wk1 ?wk2 ?wk3 ?wk4 ?wk5 ?wk6 ?_; (case wk1 => k_asm); (case wk2 => k_asm); (case wk3 => walk_at "mine mem_tail"); (case wk4 => exact rfl); (case wk5 => exact rfl); (case wk6 => exact rfl); k_whole); intro h' F' N'; (try k_sweep))
  k_with "execs cons" => (k_here; (with_reducible refine gen_toks ?_); intro tk'; (with_reducible refine wpAny_execs_cons ?_); (try dsimp only))
  k_with "execs nil" => (k_here; (with_reducible refine gen_toks ?_); intro tk'; (with_reducible refine wpAny_execs_nil ?_); (try dsimp only))
  k_with "binaryOp Mult int int" => (k_here; refine' mul_int ?_ ?whm; (case whm => first | exact mulok_r (by assumption) (by assumption) | exact mulok_s (by assumption) (by assumption) (by assumption) (by assumption)))
  k_with "ite" => (k_here; (with_reducible show ite ((BEq.beq (α := Int) _ _) = true) _ _); refine ite_both ?_ ?_ <;> intro hc' <;> (simp only [beq_iff_eq] at hc'; replace hc' := Hold.to hc'))
  k_with "ite" => (k_here; (with_reducible refine ite_tt0 ?_))
  refine wpAny_call ?_
  k_dflt (refine' code_defC ?k1 ?k2 ?k3 ?k4 ?k5 ?kA ?kF ?kK ?k6 ?k7 ?k8 ?k9 ?kB ?kD ?_ ?c2 ?c3 ?c4; (case kA => exact rfl); (case kF => exact rfl); (case kK => assumption); (case k1 => k_asm); (case k2 => k_asm); (case k3 => k_asm); (case k4 => k_asm); (case k5 => k_asm); (case k6 => k_is); (case k7 => k_is); (case k8 => ktr_room); (case k9 => first | exact BindsTo.of_eq rfl | exact binds_K (by k_in) rfl (by k_is) rfl rfl rfl); (case kB => exact rfl); (case kD => decide +kernel); (case c2 => exact rfl); (case c3 => exact rfl); (case c4 => exact rfl); k_whole; intro g' L' h' tk' cells' FG' F' N' Y' B' X' T' l1; (try k_lt l1); k_cells Y'; (try simp only [List.cons_append, List.nil_append] at N'); (try dsimp only); (try k_lift B'); (try k_fold))
  k_steps
  · unfold Hold
    intro own' I' oI' C' oC' D' ys' m2' h' tk' E' hC' F' N' off' ne'
    simp only [List.cons_append, LCg.Off3] at N' off' ⊢
    k_steps
    exact RangeEnd.intro (by k_asm) (by k_asm) (by assumption) (by decide) (by decide)
  · unfold Hold
    intro own' i' j' t' u' ys' I' oI' C' oC' D' I0' o0' m2' h' tk' E' i1' i2' j1' j2' hC' hx' hy' F' N' off' ne'
    simp only [List.cons_append, LCg.Off3] at N' off' ⊢
    k_steps
    exact EltEnd.intro (by k_asm) (by k_asm) (by first | assumption | (simp only [AllLt, and_true]; assumption)) rfl
  · unfold Hold
    intro D' ys' own' h' tk' R' F' N' o1'
    simp only [List.cons_append, LCg.Off1] at N' o1'
    k_steps
    unfold Hold
    refine' filt_src (own := own') (fun x => decide (x.1 = s₁ + v₁)) (by rfl) ?F ?N ?hm spots_small R' ?sub (Hold.mk ?_) (Hold.mk ?_)
    case F => k_asm
    case N => first | k_asm | (simp only [List.cons_append, List.append_assoc]; k_asm)
    case hm => exact .head _
    case sub => exact fun p hp => by simp only [List.mem_cons, List.mem_append, hp, or_true]
    all_goals unfold Hold
    · intro x' T' t1' t2' t3' I' oI' C' oC' D2' ys2' m2' h2' tk2' E' hmT' hC' hx' F2' N2' off2' ne'
      simp only [LCg.Off3] at off2'
      k_steps
      · walk_at "mine ce_close"; exact .inr ⟨_, .head _, rfl, _, rfl⟩; exact ⟨rfl, rfl, decide_eq_true (Hold.of (by assumption))⟩
      · walk_at "mine ce_close"; exact .inr ⟨_, .head _, rfl, _, rfl⟩; exact ⟨rfl, decide_eq_false (Hold.of (by assumption))⟩
    · intro ysf Df h3' tk3' Rf F3' N3' of'
      simp only [LCg.Off1] at of'
      k_steps
      unfold Hold
      refine' filt_src (own := own') (fun x => decide (x.1 = t₁ + v₁)) (by rfl) ?F ?N ?hm spots_small R' ?sub (Hold.mk ?_) (Hold.mk ?_)
      case F => k_asm
      case N => first | k_asm | (simp only [List.cons_append, List.append_assoc]; k_asm)
      case hm => exact .tail _ (.head _)
      case sub => exact fun p hp => by simp only [List.mem_cons, List.mem_append, hp, or_true]
      all_goals unfold Hold
      · intro x' T' t1' t2' t3' I' oI' C' oC' D2' ys2' m2' h2' tk2' E' hmT' hC' hx' F2' N2' off2' ne'
        simp only [LCg.Off3] at off2'
        k_steps
        · walk_at "mine ce_close"; exact .inr ⟨_, .tail _ (.head _), rfl, _, rfl⟩; exact ⟨rfl, rfl, decide_eq_true (Hold.of (by assumption))⟩
        · walk_at "mine ce_close"; exact .inr ⟨_, .tail _ (.head _), rfl, _, rfl⟩; exact ⟨rfl, decide_eq_false (Hold.of (by assumption))⟩
      · intro yss Ds h4' tk4' Rs F4' N4' os'
        simp only [LCg.Off1] at os'
        k_steps
        unfold Hold
        refine' rows_turns (xs := firstsOf p q r (s₁ + v₁)) (c0 := 0) (hitsOf p q r t₁ v₁) (PySem.Str.ofString "count") [PySem.Str.ofString "square", PySem.Str.ofString "x", PySem.Str.ofString "y", PySem.Str.ofString "other_square", PySem.Str.ofString "m", PySem.Str.ofString "n"] (by rfl) ?F ?N ?hm ?hR ?hc (Hold.mk ?_) (Hold.mk ?_)
        case F => k_asm
        case N => first | k_asm | (simp only [List.cons_append, List.append_assoc]; k_asm)
        case hm => exact .tail _ (.head _)
        case hR => unfold firstsOf; exact Rf.mono fun p hp => by simp only [List.mem_cons, List.mem_append, hp, or_true]
        case hc => rfl
        all_goals unfold Hold
        · intro x1' T1' t1' t2' t3' k1' t1k' u1' h5' tk5' own1' hx1' hm1' F5' N5'
          have hm1 := List.mem_append_left own1' hm1'
          simp only [ovr, List.cons_append, List.append_assoc] at F5' N5' hm1
          clear hm1'
          k_steps
          unfold Hold
          refine' rows_turns (xs := firstsOf p q r (t₁ + v₁)) (c0 := k1') (hit p q r v₁ x1') (PySem.Str.ofString "count") [PySem.Str.ofString "other_square", PySem.Str.ofString "m", PySem.Str.ofString "n"] (by rfl) ?F ?N ?hm ?hR ?hc (Hold.mk ?_) (Hold.mk ?_)
          case F => k_asm
          case N => first | k_asm | (simp only [List.cons_append, List.append_assoc]; k_asm)
          case hm => exact .head _
          case hR => unfold firstsOf; exact Rs.mono fun p hp => by simp only [List.mem_cons, List.mem_append, hp, or_true, true_or]
          case hc => rfl
          all_goals unfold Hold
          · intro x2' T2' t1' t2' t3' k2' t2k' u2' h6' tk6' own2' hx2' hm2' F6' N6'
            have hm2 := List.mem_append_left own2' hm2'
            simp only [ovr, List.cons_append, List.append_assoc] at F6' N6' hm2
            clear hm2'
            obtain ⟨⟨b1, b2⟩, b3, b4⟩ := firsts_bd hx1'
            obtain ⟨⟨b5, b6⟩, b7, b8⟩ := firsts_bd hx2'
            k_steps
            · show RowEnd _ _ _ _ _ _ _ _ _
              refine' RowEnd.intro ?F ?N ?hm ?hc ?hk
              case F => k_asm
              case N => first | k_asm | (simp only [List.cons_append, List.append_assoc]; k_asm)
              case hm =>
                intro z h1 h2
                simp only [List.mem_cons, List.not_mem_nil, or_false, not_or] at h2
                obtain ⟨q0, q1, q2⟩ := h2
                simp only [if_neg h1, if_neg q0, if_neg q1, if_neg q2]
                try rfl
              case hc => rfl
              case hk => unfold plus hit; rw [if_pos ⟨Hold.of (by assumption), Hold.of (by assumption)⟩]
            · show RowEnd _ _ _ _ _ _ _ _ _
              refine' RowEnd.intro ?F ?N ?hm ?hc ?hk
              case F => k_asm
              case N => first | k_asm | (simp only [List.cons_append, List.append_assoc]; k_asm)
              case hm =>
                intro z h1 h2
                simp only [List.mem_cons, List.not_mem_nil, or_false, not_or] at h2
                obtain ⟨q0, q1, q2⟩ := h2
                simp only [if_neg h1, if_neg q0, if_neg q1, if_neg q2]
                try rfl
              case hc => rfl
              case hk => unfold plus hit; rw [if_neg (fun h => Hold.of (by assumption : Hold (¬ _)) h.2)]; omega
            · show RowEnd _ _ _ _ _ _ _ _ _
              refine' RowEnd.intro ?F ?N ?hm ?hc ?hk
              case F => k_asm
              case N => first | k_asm | (simp only [List.cons_append, List.append_assoc]; k_asm)
              case hm =>
                intro z h1 h2
                simp only [List.mem_cons, List.not_mem_nil, or_false, not_or] at h2
                obtain ⟨q0, q1, q2⟩ := h2
                simp only [if_neg h1, if_neg q0, if_neg q1, if_neg q2]
                try rfl
              case hc => rfl
              case hk => unfold plus hit; rw [if_neg (fun h => Hold.of (by assumption : Hold (¬ _)) h.1)]; omega
          · intro u2' t2k' h6' tk6' F6' N6'
            simp only [ovr] at F6'
            k_steps
            · show RowEnd _ _ _ _ _ _ _ _ _
              refine' RowEnd.intro ?F ?N ?hm ?hc ?hk
              case F => k_asm
              case N => first | k_asm | (simp only [List.cons_append, List.append_assoc]; k_asm)
              case hm =>
                intro z h1 h2
                simp only [List.mem_cons, List.not_mem_nil, or_false, not_or] at h2
                obtain ⟨q0, q1, q2, q3, q4, q5⟩ := h2
                simp only [if_neg h1, if_neg q0, if_neg q1, if_neg q2, if_neg q3, if_neg q4, if_neg q5]
                try rfl
              case hc => rfl
              case hk => unfold hitsOf; rfl
        · intro u1' t1k' h5' tk5' F5' N5'
          simp only [ovr] at F5'
          k_steps
          refine hret _ news _ _ (by k_asm) (fun p hp => (by assumption : News _ _ _ (_ :: _)) p (by simp only [List.mem_cons, List.mem_append, hp, or_true, true_or])) ⟨t1k', congrArg (fun k => Value.int k t1k') ?_, rfl⟩
          unfold fitsOf plus
          rw [Int.zero_add]
end Mine
end

/- FinC -/
noncomputable section
open PySem PySem.W PySem.Spec PySem.Calls PyProof.Rows

namespace Mine
noncomputable def partsD (a b c : Int) : Int × Int × Int := if 1 < ((List.count 0 [a, b, c] : Nat) : Int) then (a + 1, b + 1, c + 1) else (a, b, c)
noncomputable def five : List Int := [0, 1, 2, 3, 4]
noncomputable def tris : List (Int × Int × Int) := five.flatMap fun a => five.flatMap fun b => five.map fun c => partsD a b c
noncomputable def Tri (x : Int × Int × Int) : Prop := x ∈ tris
theorem tri_all {P : Int × Int × Int → Bool} (h : tris.all P = true) {x : Int × Int × Int} (hx : Tri x) : P x = true := List.all_eq_true.mp h x hx
noncomputable def q8 (p : Int) : UInt64 := Float64.ofFrac (decide (p < 0) != decide ((8 : Int) < 0)) p.natAbs 8
noncomputable def hsvI (x : Int × Int × Int) : UInt64 × UInt64 × UInt64 := hsvOf (q8 x.1) (q8 x.2.1) (q8 x.2.2)
noncomputable def hlsI (x : Int × Int × Int) : UInt64 × UInt64 × UInt64 := hlsOf (q8 x.1) (q8 x.2.1) (q8 x.2.2)
noncomputable def bck (x : Int × Int × Int) : Int × Int × Int := ((s3 x.1 x.2.1 x.2.2).2.2, (s3 x.1 x.2.1 x.2.2).2.1, (s3 x.1 x.2.1 x.2.2).1)
noncomputable def tabV : List ((Int × Int × Int) × (UInt64 × UInt64 × UInt64)) := [((0, 1, 1), (4602678819172646912, 4607182418800017408, 4593671619917905920)), ((0, 1, 2), (4603429419110541995, 4607182418800017408, 4598175219545276416)), ((0, 1, 3), (4603679619089840356, 4607182418800017408, 4600427019358961664)), ((0, 1, 4), (4603804719079489536, 4607182418800017408, 4602678819172646912)), ((0, 2, 1), (4601177619296856747, 4607182418800017408, 4598175219545276416)), ((0, 2, 2), (4602678819172646912, 4607182418800017408, 4598175219545276416)), ((0, 2, 3), (4603179219131243633, 4607182418800017408, 4600427019358961664)), ((0, 2, 4), (4603429419110541995, 4607182418800017408, 4602678819172646912)), ((0, 3, 1), (4600677219338260025, 4607182418800017408, 4600427019358961664)), ((0, 3, 2), (4601678019255453468, 4607182418800017408, 4600427019358961664)), ((0, 3, 3), (4602678819172646912, 4607182418800017408, 4600427019358961664)), ((0, 3, 4), (4603054119141594453, 4607182418800017408, 4602678819172646912)), ((0, 4, 1), (4600427019358961664, 4607182418800017408, 4602678819172646912)), ((0, 4, 2), (4601177619296856747, 4607182418800017408, 4602678819172646912)), ((0, 4, 3), (4601928219234751829, 4607182418800017408, 4602678819172646912)), ((0, 4, 4), (4602678819172646912, 4607182418800017408, 4602678819172646912)), ((1, 0, 1), (4605681218924227243, 4607182418800017408, 4593671619917905920)), ((1, 0, 2), (4604930618986332160, 4607182418800017408, 4598175219545276416)), ((1, 0, 3), (4604680419007033799, 4607182418800017408, 4600427019358961664)), ((1, 0, 4), (4604555319017384619, 4607182418800017408, 4602678819172646912)), ((1, 1, 0), (4595172819793696085, 4607182418800017408, 4593671619917905920)), ((1, 1, 1), (0, 0, 4593671619917905920)), ((1, 1, 2), (4604180019048437077, 4602678819172646912, 4598175219545276416)), ((1, 1, 3), (4604180019048437077, 4604180019048437077, 4600427019358961664)), ((1, 1, 4), (4604180019048437077, 4604930618986332160, 4602678819172646912)), ((1, 1, 5), (4604180019048437077, 4605380978949069210, 4603804719079489536)), ((1, 2, 0), (4598175219545276416, 4607182418800017408, 4598175219545276416)), ((1, 2, 1), (4599676419421066581, 4602678819172646912, 4598175219545276416)), ((1, 2, 2), (4602678819172646912, 4602678819172646912, 4598175219545276416)), ((1, 2, 3), (4603429419110541995, 4604180019048437077, 4600427019358961664)), ((1, 2, 4), (4603679619089840356, 4604930618986332160, 4602678819172646912)), ((1, 3, 0), (4598675619503873137, 4607182418800017408, 4600427019358961664)), ((1, 3, 1), (4599676419421066581, 4604180019048437077, 4600427019358961664)), ((1, 3, 2), (4601177619296856747, 4604180019048437077, 4600427019358961664)), ((1, 3, 3), (4602678819172646912, 4604180019048437077, 4600427019358961664)), ((1, 3, 4), (4603179219131243633, 4604930618986332160, 4602678819172646912)), ((1, 4, 0), (4598925819483171499, 4607182418800017408, 4602678819172646912)), ((1, 4, 1), (4599676419421066581, 4604930618986332160, 4602678819172646912)), ((1, 4, 2), (4600677219338260025, 4604930618986332160, 4602678819172646912)), ((1, 4, 3), (4601678019255453468, 4604930618986332160, 4602678819172646912)), ((1, 4, 4), (4602678819172646912, 4604930618986332160, 4602678819172646912)), ((1, 5, 1), (4599676419421066581, 4605380978949069210, 4603804719079489536)), ((2, 0, 1), (4606431818862122325, 4607182418800017408, 4598175219545276416)), ((2, 0, 2), (4605681218924227243, 4607182418800017408, 4598175219545276416)), ((2, 0, 3), (4605180818965630521, 4607182418800017408, 4600427019358961664)), ((2, 0, 4), (4604930618986332160, 4607182418800017408, 4602678819172646912)), ((2, 1, 0), (4590669220166325589, 4607182418800017408, 4598175219545276416)), ((2, 1, 1), (0, 4602678819172646912, 4598175219545276416)), ((2, 1, 2), (4605681218924227243, 4602678819172646912, 4598175219545276416)), ((2, 1, 3), (4604930618986332160, 4604180019048437077, 4600427019358961664)), ((2, 1, 4), (4604680419007033799, 4604930618986332160, 4602678819172646912)), ((2, 2, 0), (4595172819793696085, 4607182418800017408, 4598175219545276416)), ((2, 2, 1), (4595172819793696085, 4602678819172646912, 4598175219545276416)), ((2, 2, 2), (0, 0, 4598175219545276416)), ((2, 2, 3), (4604180019048437077, 4599676419421066581, 4600427019358961664)), ((2, 2, 4), (4604180019048437077, 4602678819172646912, 4602678819172646912)), ((2, 3, 0), (4597174419628082973, 4607182418800017408, 4600427019358961664)), ((2, 3, 1), (4598175219545276416, 4604180019048437077, 4600427019358961664)), ((2, 3, 2), (4599676419421066581, 4599676419421066581, 4600427019358961664)), ((2, 3, 3), (4602678819172646912, 4599676419421066581, 4600427019358961664)), ((2, 3, 4), (4603429419110541995, 4602678819172646912, 4602678819172646912)), ((2, 4, 0), (4598175219545276416, 4607182418800017408, 4602678819172646912)), ((2, 4, 1), (4598675619503873137, 4604930618986332160, 4602678819172646912)), ((2, 4, 2), (4599676419421066581, 4602678819172646912, 4602678819172646912)), ((2, 4, 3), (4601177619296856747, 4602678819172646912, 4602678819172646912)), ((2, 4, 4), (4602678819172646912, 4602678819172646912, 4602678819172646912)), ((3, 0, 1), (4606682018841420686, 4607182418800017408, 4600427019358961664)), ((3, 0, 2), (4606181618882823964, 4607182418800017408, 4600427019358961664)), ((3, 0, 3), (4605681218924227243, 4607182418800017408, 4600427019358961664)), ((3, 0, 4), (4605305918955279701, 4607182418800017408, 4602678819172646912)), ((3, 1, 0), (4588167220373341981, 4607182418800017408, 4600427019358961664)), ((3, 1, 1), (0, 4604180019048437077, 4600427019358961664)), ((3, 1, 2), (4606431818862122325, 4604180019048437077, 4600427019358961664)), ((3, 1, 3), (4605681218924227243, 4604180019048437077, 4600427019358961664)), ((3, 1, 4), (4605180818965630521, 4604930618986332160, 4602678819172646912)), ((3, 2, 0), (4592670820000712477, 4607182418800017408, 4600427019358961664)), ((3, 2, 1), (4590669220166325589, 4604180019048437077, 4600427019358961664)), ((3, 2, 2), (0, 4599676419421066581, 4600427019358961664)), ((3, 2, 3), (4605681218924227243, 4599676419421066581, 4600427019358961664)), ((3, 2, 4), (4604930618986332160, 4602678819172646912, 4602678819172646912)), ((3, 3, 0), (4595172819793696085, 4607182418800017408, 4600427019358961664)), ((3, 3, 1), (4595172819793696085, 4604180019048437077, 4600427019358961664)), ((3, 3, 2), (4595172819793696085, 4599676419421066581, 4600427019358961664)), ((3, 3, 3), (0, 0, 4600427019358961664)), ((3, 3, 4), (4604180019048437077, 4598175219545276416, 4602678819172646912)), ((3, 4, 0), (4596674019669486251, 4607182418800017408, 4602678819172646912)), ((3, 4, 1), (4597174419628082973, 4604930618986332160, 4602678819172646912)), ((3, 4, 2), (4598175219545276416, 4602678819172646912, 4602678819172646912)), ((3, 4, 3), (4599676419421066581, 4598175219545276416, 4602678819172646912)), ((3, 4, 4), (4602678819172646912, 4598175219545276416, 4602678819172646912)), ((4, 0, 1), (4606807118831069867, 4607182418800017408, 4602678819172646912)), ((4, 0, 2), (4606431818862122325, 4607182418800017408, 4602678819172646912)), ((4, 0, 3), (4606056518893174784, 4607182418800017408, 4602678819172646912)), ((4, 0, 4), (4605681218924227243, 4607182418800017408, 4602678819172646912)), ((4, 1, 0), (4586165620538955093, 4607182418800017408, 4602678819172646912)), ((4, 1, 1), (0, 4604930618986332160, 4602678819172646912)), ((4, 1, 2), (4606682018841420686, 4604930618986332160, 4602678819172646912)), ((4, 1, 3), (4606181618882823964, 4604930618986332160, 4602678819172646912)), ((4, 1, 4), (4605681218924227243, 4604930618986332160, 4602678819172646912)), ((4, 2, 0), (4590669220166325589, 4607182418800017408, 4602678819172646912)), ((4, 2, 1), (4588167220373341981, 4604930618986332160, 4602678819172646912)), ((4, 2, 2), (0, 4602678819172646912, 4602678819172646912)), ((4, 2, 3), (4606431818862122325, 4602678819172646912, 4602678819172646912)), ((4, 2, 4), (4605681218924227243, 4602678819172646912, 4602678819172646912)), ((4, 3, 0), (4593671619917905920, 4607182418800017408, 4602678819172646912)), ((4, 3, 1), (4592670820000712477, 4604930618986332160, 4602678819172646912)), ((4, 3, 2), (4590669220166325589, 4602678819172646912, 4602678819172646912)), ((4, 3, 3), (0, 4598175219545276416, 4602678819172646912)), ((4, 3, 4), (4605681218924227243, 4598175219545276416, 4602678819172646912)), ((4, 4, 0), (4595172819793696085, 4607182418800017408, 4602678819172646912)), ((4, 4, 1), (4595172819793696085, 4604930618986332160, 4602678819172646912)), ((4, 4, 2), (4595172819793696085, 4602678819172646912, 4602678819172646912)), ((4, 4, 3), (4595172819793696085, 4598175219545276416, 4602678819172646912)), ((4, 4, 4), (0, 0, 4602678819172646912)), ((5, 1, 1), (0, 4605380978949069210, 4603804719079489536))]
noncomputable def tabL : List ((Int × Int × Int) × (UInt64 × UInt64 × UInt64)) := [((1, 1, 0), (4595172819793696085, 4589168020290535424, 4607182418800017408)), ((1, 1, 1), (0, 4593671619917905920, 0)), ((2, 1, 0), (4590669220166325589, 4593671619917905920, 4607182418800017408)), ((2, 1, 1), (0, 4595923419731591168, 4599676419421066581)), ((2, 2, 0), (4595172819793696085, 4593671619917905920, 4607182418800017408)), ((2, 2, 1), (4595172819793696085, 4595923419731591168, 4599676419421066581)), ((2, 2, 2), (0, 4598175219545276416, 0)), ((3, 1, 0), (4588167220373341981, 4595923419731591168, 4607182418800017408)), ((3, 1, 1), (0, 4598175219545276416, 4602678819172646912)), ((3, 2, 0), (4592670820000712477, 4595923419731591168, 4607182418800017408)), ((3, 2, 1), (4590669220166325589, 4598175219545276416, 4602678819172646912)), ((3, 2, 2), (0, 4599301119452119040, 4596373779694328218)), ((3, 3, 0), (4595172819793696085, 4595923419731591168, 4607182418800017408)), ((3, 3, 1), (4595172819793696085, 4598175219545276416, 4602678819172646912)), ((3, 3, 2), (4595172819793696085, 4599301119452119040, 4596373779694328218)), ((3, 3, 3), (0, 4600427019358961664, 0)), ((4, 1, 0), (4586165620538955093, 4598175219545276416, 4607182418800017408)), ((4, 1, 1), (0, 4599301119452119040, 4603579539098121011)), ((4, 2, 0), (4590669220166325589, 4598175219545276416, 4607182418800017408)), ((4, 2, 1), (4588167220373341981, 4599301119452119040, 4603579539098121011)), ((4, 2, 2), (0, 4600427019358961664, 4599676419421066581)), ((4, 3, 0), (4593671619917905920, 4598175219545276416, 4607182418800017408)), ((4, 3, 1), (4592670820000712477, 4599301119452119040, 4603579539098121011)), ((4, 3, 2), (4590669220166325589, 4600427019358961664, 4599676419421066581)), ((4, 3, 3), (0, 4601552919265804288, 4594314991293244562)), ((4, 4, 0), (4595172819793696085, 4598175219545276416, 4607182418800017408)), ((4, 4, 1), (4595172819793696085, 4599301119452119040, 4603579539098121011)), ((4, 4, 2), (4595172819793696085, 4600427019358961664, 4599676419421066581)), ((4, 4, 3), (4595172819793696085, 4601552919265804288, 4594314991293244562)), ((4, 4, 4), (0, 4602678819172646912, 0)), ((5, 1, 1), (0, 4600427019358961664, 4604180019048437077))]
noncomputable def V (x : Int × Int × Int) : UInt64 × UInt64 × UInt64 := (tabV.lookup x).getD (0, 0, 0)
noncomputable def W (x : Int × Int × Int) : UInt64 × UInt64 × UInt64 := (tabL.lookup x).getD (0, 0, 0)
theorem in_tab : tris.all (fun x => (tabV.lookup x).isSome && (tabL.lookup (bck x)).isSome && decide (bck x ∈ tris) && decide (bck (bck x) = bck x)) = true := by decide +kernel
theorem fV : tabV.all (fun e => hsvI e.1 == e.2) = true := by decide +kernel
theorem fL : tabL.all (fun e => hlsI e.1 == e.2) = true := by decide +kernel
theorem look_mem {α β : Type} [BEq α] [LawfulBEq α] {l : List (α × β)} {x : α} {v : β} (h : l.lookup x = some v) : (x, v) ∈ l := by
  induction l with
  | nil => cases h
  | cons e l ih =>
    obtain ⟨a, b⟩ := e
    rw [List.lookup_cons] at h
    split at h
    · rename_i hx
      rw [eq_of_beq hx]
      have : b = v := by simpa using h
      rw [this]; exact .head _
    · exact .tail _ (ih h)
theorem hsv_tab {x : Int × Int × Int} (hx : Tri x) : hsvI x = V x := by
  have h := tri_all in_tab hx
  simp only [Bool.and_eq_true] at h
  obtain ⟨v, hv⟩ := Option.isSome_iff_exists.mp h.1.1.1
  have := List.all_eq_true.mp fV _ (look_mem hv)
  unfold V
  rw [hv]
  exact eq_of_beq this
theorem hls_tab {x : Int × Int × Int} (hx : Tri x) : hlsI (bck x) = W (bck x) := by
  have h := tri_all in_tab hx
  simp only [Bool.and_eq_true] at h
  obtain ⟨v, hv⟩ := Option.isSome_iff_exists.mp h.1.1.2
  have := List.all_eq_true.mp fL _ (look_mem hv)
  unfold W
  rw [hv]
  exact eq_of_beq this
theorem tri_bck {x : Int × Int × Int} (hx : Tri x) : Tri (bck x) := by
  have h := tri_all in_tab hx
  simp only [Bool.and_eq_true, decide_eq_true_eq] at h
  exact h.1.2
theorem bck_bck {x : Int × Int × Int} (hx : Tri x) : bck (bck x) = bck x := by
  have h := tri_all in_tab hx
  simp only [Bool.and_eq_true, decide_eq_true_eq] at h
  exact h.2
noncomputable def ck1 (x : Int × Int × Int) : Bool := let a := q8 x.1; let b := q8 x.2.1; let c := q8 x.2.2; eqf (mn a b c) (mx a b c) || (!Float64.isZero (rg a b c) && !Float64.isZero (mx a b c))
theorem f1 : tris.all ck1 = true := by decide +kernel
noncomputable def ck2 (x : Int × Int × Int) : Bool := let a := q8 x.1; let b := q8 x.2.1; let c := q8 x.2.2; eqf (mn a b c) (mx a b c) || (!Float64.isZero (rg a b c) && !Float64.isZero (Float64.add (mx a b c) (mn a b c)) && !Float64.isZero (Float64.sub (Float64.sub 4611686018427387904 (mx a b c)) (mn a b c)))
theorem f2 : tabL.all (fun e => ck2 e.1) = true := by decide +kernel
noncomputable def ck3 (x : Int × Int × Int) : Bool := let h := Float64.mul (Float64.ofInt 72) (V x).1; !Float64.isNaN h && !Float64.isInf h
theorem f3 : tris.all ck3 = true := by decide +kernel
noncomputable def selfs (v : UInt64 × UInt64 × UInt64) : Bool := Float64.cmp v.1 v.1 == some .eq && Float64.cmp v.2.1 v.2.1 == some .eq && Float64.cmp v.2.2 v.2.2 == some .eq
theorem f4 : tris.all (fun x => (V (bck x)).2 == (V x).2 && selfs (V x)) = true := by decide +kernel
theorem f5 : tris.all (fun x => r72 (V (bck x)).1 == min ((r72 (V x).1).fmod 24) (24 - (r72 (V x).1).fmod 24)) = true := by decide +kernel
theorem f6 : tabL.all (fun e => selfs e.2 && tabL.all (fun e' => (eqf e.2.1 e'.2.1 && eqf e.2.2.1 e'.2.2.1 && eqf e.2.2.2 e'.2.2.2) == decide (e.1 = e'.1))) = true := by decide +kernel
end Mine
end

/- Pm -/
noncomputable section
open PySem PySem.W PySem.Spec PySem.Calls PyProof.Rows

namespace Mine
theorem word_ok {n : Int} : okLet (KBw.bInts (wordOf (-(n.fmod (16 ^ Int.toNat 4))).natAbs).toArray) := by
  have e : (16 : Int) ^ Int.toNat 4 = 65536 := by decide
  rw [e]
  have h0 : 0 ≤ n.fmod 65536 := Int.fmod_nonneg_of_pos n (by decide)
  have h1 : n.fmod 65536 < 65536 := Int.fmod_lt_of_pos n (by decide)
  have hl := wordOf_len 4 (-(n.fmod 65536)).natAbs (by omega)
  refine ⟨?_, fun c hc => ?_⟩
  · show (KBw.bInts _).length ≤ 4
    simpa [KBw.bInts] using hl
  · unfold KBw.bInts at hc
    obtain ⟨u, hu, rfl⟩ := List.mem_map.mp hc
    have := wordOf_let _ u (by simpa using hu)
    omega
noncomputable def ROW (c b a : Int) : R3T := s3 (-(b.natAbs : Int)) (c + (b.natAbs : Int)) (a + (b.natAbs : Int))
noncomputable def Rch (res : R3T) (n : Nat) (r : R3T) : Prop := ∀ m, n ≤ m → runN m r = res
theorem Rch.mono {res r : R3T} {n m : Nat} (h : Rch res n r) (hm : n ≤ m) : Rch res m r := fun k hk => h k (Nat.le_trans hm hk)
theorem Rch.stop {r : R3T} (h : 0 ≤ r.1) (n : Nat) : Rch r n r := fun m _ => by
  cases m with
  | zero => rfl
  | succ m => rw [runN, if_pos h]
theorem Rch.go {res r : R3T} {n : Nat} (h : Rch res n (stepR r)) (h0 : ¬ 0 ≤ r.1) : Rch res (n + 1) r := fun m hm => by
  cases m with
  | zero => omega
  | succ m => rw [runN, if_neg h0]; exact h m (by omega)
theorem Rch.back {res r : R3T} {n : Nat} (h : Rch res n r) (hr : 0 ≤ res.1) (h0 : ¬ 0 ≤ r.1) : ∃ k, n = k + 1 ∧ Rch res k (stepR r) := by
  cases n with
  | zero =>
    have : r = res := h 0 (Nat.le_refl _)
    rw [this] at h0
    exact absurd hr h0
  | succ n =>
    refine ⟨n, rfl, fun m hm => ?_⟩
    have := h (m + 1) (by omega)
    rw [runN, if_neg h0] at this
    exact this
noncomputable def G (c b a : Int) : Prop := 0 < c ∧ 0 < a ∧ b * b < a * c
theorem G.neg {c b a : Int} (h : G c b a) : G c (-b) a := ⟨h.1, h.2.1, by rw [Int.neg_mul_neg]; exact h.2.2⟩
theorem G.plus {c b a : Int} (h : G c b a) : G c (b + c) (a + 2 * b + c) := by
  obtain ⟨h1, h2, h3⟩ := h
  have e : (a + 2 * b + c) * c = a * c - b * b + (b + c) * (b + c) := by grind
  have h4 : (b + c) * (b + c) < (a + 2 * b + c) * c := by omega
  refine ⟨h1, ?_, h4⟩
  have h5 : 0 ≤ (b + c) * (b + c) := by
    rcases Int.le_total 0 (b + c) with h | h
    · exact Int.mul_nonneg h h
    · exact Int.mul_nonneg_of_nonpos_of_nonpos h h
  have h6 : 0 < (a + 2 * b + c) * c := by omega
  rcases Int.lt_or_le 0 (a + 2 * b + c) with h | h
  · exact h
  · have h7 := Int.mul_le_mul_of_nonneg_right h (Int.le_of_lt h1)
    rw [Int.zero_mul] at h7
    omega
theorem ROW_swap (c b a : Int) : ROW c b a = ROW a b c := by
  exact s3_23 _ _ _
theorem ROW_neg (c b a : Int) : ROW c (-b) a = ROW c b a := by unfold ROW; rw [Int.natAbs_neg]
theorem ROW_neg1 {c b a : Int} (h : G c b a) (hb : b ≠ 0) : ¬ 0 ≤ (ROW c b a).1 := by
  obtain ⟨h1, h2, _⟩ := h
  unfold ROW s3
  dsimp only
  omega
theorem step_ROW {c b a : Int} (h : G c b a) : stepR (ROW c b a) = s3 (b.natAbs : Int) (c - (b.natAbs : Int)) (a - (b.natAbs : Int)) := by
  obtain ⟨h1, h2, _⟩ := h
  unfold stepR ROW
  generalize hB : (b.natAbs : Int) = B
  have hB0 : 0 ≤ B := by omega
  clear hB
  rcases Int.le_total c a with q | q
  · rw [s3_of (by omega : -B ≤ c + B) (by omega : c + B ≤ a + B)]
    dsimp only
    rw [show - -B = B by omega, show c + B + 2 * -B = c - B by omega, show a + B + 2 * -B = a - B by omega]
  · rw [s3_of2 (by omega : -B ≤ a + B) (by omega : a + B ≤ c + B)]
    dsimp only
    rw [show - -B = B by omega, show c + B + 2 * -B = c - B by omega, show a + B + 2 * -B = a - B by omega, s3_23]
theorem ROW_down {c b a : Int} (hb : c ≤ b) (hc : 0 < c) : ROW c (b - c) (a - 2 * b + c) = s3 (b.natAbs : Int) (c - (b.natAbs : Int)) (a - (b.natAbs : Int)) := by
  unfold ROW
  rw [show ((b - c).natAbs : Int) = b - c by omega, show (b.natAbs : Int) = b by omega, s3_12, show c + (b - c) = b by omega, show -(b - c) = c - b by omega, show a - 2 * b + c + (b - c) = a - b by omega]
theorem plus1 {res : R3T} {n : Nat} {c b a : Int} (hr : 0 ≤ res.1) (h : G c b a) (H : Rch res n (ROW c b a)) : Rch res (n + 1) (ROW c (b + c) (a + 2 * b + c)) := by
  have h' := h.plus
  have hc := h.1
  by_cases q1 : 0 ≤ b
  · refine Rch.go ?_ (ROW_neg1 h' (by omega))
    rw [step_ROW h', ← ROW_down (by omega) hc]
    rw [show b + c - c = b by omega, show a + 2 * b + c - 2 * (b + c) + c = a by omega]
    exact H
  · obtain ⟨k, rfl, Hk⟩ := H.back hr (ROW_neg1 h (by omega))
    rw [step_ROW h] at Hk
    by_cases q2 : b + c ≤ 0
    · have e := ROW_down (c := c) (b := -b) (a := a) (by omega) hc
      rw [Int.natAbs_neg] at e
      rw [← e, show -b - c = -(b + c) by omega, ROW_neg, show a - 2 * -b + c = a + 2 * b + c by omega] at Hk
      exact Hk.mono (by omega)
    · refine Rch.mono (n := k + 1) (Rch.go ?_ (ROW_neg1 h' (by omega))) (by omega)
      rw [step_ROW h']
      have e : s3 (((b + c).natAbs : Nat) : Int) (c - ((b + c).natAbs : Nat)) (a + 2 * b + c - ((b + c).natAbs : Nat)) = s3 (b.natAbs : Int) (c - (b.natAbs : Int)) (a - (b.natAbs : Int)) := by
        rw [show (((b + c).natAbs : Nat) : Int) = b + c by omega, show (b.natAbs : Int) = -b by omega, s3_12, show c - (b + c) = -b by omega, show b + c = c - -b by omega, show a + 2 * b + c - (c - -b) = a - -b by omega]
      rw [e]
      exact Hk
theorem plusN {res : R3T} {c : Int} (hr : 0 ≤ res.1) (k : Nat) : ∀ {n : Nat} {b a : Int}, G c b a → Rch res n (ROW c b a) → G c (b + k * c) (a + 2 * (k * b) + k * k * c) ∧ Rch res (n + k) (ROW c (b + k * c) (a + 2 * (k * b) + k * k * c)) := by
  induction k with
  | zero =>
    intro n b a h H
    have e1 : b + ((0 : Nat) : Int) * c = b := by simp
    have e2 : a + 2 * (((0 : Nat) : Int) * b) + ((0 : Nat) : Int) * ((0 : Nat) : Int) * c = a := by simp
    rw [e1, e2]
    exact ⟨h, H⟩
  | succ k ih =>
    intro n b a h H
    obtain ⟨g, R⟩ := ih h H
    have e1 : b + ((k + 1 : Nat) : Int) * c = (b + k * c) + c := by push_cast; grind
    have e2 : a + 2 * (((k + 1 : Nat) : Int) * b) + ((k + 1 : Nat) : Int) * ((k + 1 : Nat) : Int) * c = (a + 2 * (k * b) + k * k * c) + 2 * (b + k * c) + c := by push_cast; grind
    rw [e1, e2]
    exact ⟨g.plus, plus1 hr g R⟩
theorem G.swap {c b a : Int} (h : G c b a) : G a b c := ⟨h.2.1, h.1, by have e := h.2.2; rw [Int.mul_comm a c] at e; exact e⟩
theorem letter {res : R3T} {n : Nat} {a b c d : Int} (hr : 0 ≤ res.1) (hd : 65 ≤ d ∧ d ≤ 80) (h : G a b c) (H : Rch res n (ROW a b c)) : G (st1 (a, b, c) d).1 (st1 (a, b, c) d).2.1 (st1 (a, b, c) d).2.2 ∧ Rch res (n + 8) (ROW (st1 (a, b, c) d).1 (st1 (a, b, c) d).2.1 (st1 (a, b, c) d).2.2) := by
  unfold st1
  dsimp only
  have hs := h.swap
  rw [ROW_swap] at H
  by_cases q : 73 ≤ d
  · have H' : Rch res n (ROW c (-b) a) := by rw [ROW_neg]; exact H
    obtain ⟨g, R⟩ := plusN hr (d - 73).toNat hs.neg H'
    have e : (((d - 73).toNat : Nat) : Int) = d - 73 := by omega
    rw [e] at g R
    rw [show (d - 73) * c - b = -b + (d - 73) * c by omega, show (d - 73) * (d - 73) * c - 2 * (d - 73) * b + a = a + 2 * ((d - 73) * -b) + (d - 73) * (d - 73) * c by grind]
    exact ⟨g, R.mono (by omega)⟩
  · obtain ⟨g, R⟩ := plusN hr (73 - d).toNat hs H
    have e : (((73 - d).toNat : Nat) : Int) = 73 - d := by omega
    rw [e] at g R
    rw [show (d - 73) * c - b = -(b + (73 - d) * c) by grind, show (d - 73) * (d - 73) * c - 2 * (d - 73) * b + a = a + 2 * ((73 - d) * b) + (73 - d) * (73 - d) * c by grind, ROW_neg]
    exact ⟨g.neg, R.mono (by omega)⟩
theorem letters {res : R3T} (hr : 0 ≤ res.1) : ∀ (l : List Int) (n : Nat) (x : Int × Int × Int), (∀ d ∈ l, 65 ≤ d ∧ d ≤ 80) → G x.1 x.2.1 x.2.2 → Rch res n (ROW x.1 x.2.1 x.2.2) →
    G (l.foldl st1 x).1 (l.foldl st1 x).2.1 (l.foldl st1 x).2.2 ∧ Rch res (n + 8 * l.length) (ROW (l.foldl st1 x).1 (l.foldl st1 x).2.1 (l.foldl st1 x).2.2) := by
  intro l
  induction l with
  | nil => intro n x _ h H; exact ⟨h, H⟩
  | cons d l ih =>
    intro n x hl h H
    obtain ⟨g, R⟩ := letter hr (hl d (.head _)) h H
    obtain ⟨g2, R2⟩ := ih (n + 8) (st1 x d) (fun e he => hl e (.tail _ he)) g R
    refine ⟨g2, R2.mono ?_⟩
    rw [List.length_cons]; omega
theorem red_core {p q r : Int} (hp : 0 ≤ p) (hq : 0 ≤ q) (hr : 0 ≤ r) (hd : 0 < p * q + p * r + q * r) {l : List Int} (hl : okLet l) :
    (l.foldl st1 (p + r, -r, q + r)).1.natAbs ≠ 0 ∧ (l.foldl st1 (p + r, -r, q + r)).2.2.natAbs ≠ 0 ∧ redOut (l.foldl st1 (p + r, -r, q + r)) = s3 p q r := by
  have hres : 0 ≤ (s3 p q r).1 := by unfold s3; dsimp only; omega
  have hg : G (p + r) (-r) (q + r) := by
    refine ⟨?_, ?_, ?_⟩
    · rcases Int.lt_or_le 0 (p + r) with h | h
      · exact h
      · exfalso
        have h1 : p = 0 := by omega
        have h2 : r = 0 := by omega
        rw [h1, h2] at hd
        simp at hd
    · rcases Int.lt_or_le 0 (q + r) with h | h
      · exact h
      · exfalso
        have h1 : q = 0 := by omega
        have h2 : r = 0 := by omega
        rw [h1, h2] at hd
        simp at hd
    · have e : (q + r) * (p + r) = (p * q + p * r + q * r) + -r * -r := by grind
      omega
  have H : Rch (s3 p q r) 1 (ROW (p + r) (-r) (q + r)) := by
    by_cases q0 : r = 0
    · have e : ROW (p + r) (-r) (q + r) = s3 p q r := by subst q0; unfold ROW; rw [show (((-0 : Int).natAbs : Nat) : Int) = 0 by rfl, show (-0 : Int) = 0 by rfl, Int.add_zero, Int.add_zero, Int.add_zero, Int.add_zero]; exact s3_rot 0 p q
      rw [e]
      exact Rch.stop hres 1
    · refine Rch.go (n := 0) ?_ (ROW_neg1 hg (by omega))
      rw [step_ROW hg]
      have e : s3 (((-r).natAbs : Nat) : Int) (p + r - ((-r).natAbs : Nat)) (q + r - ((-r).natAbs : Nat)) = s3 p q r := by rw [show (((-r).natAbs : Nat) : Int) = r by omega, show p + r - r = p by omega, show q + r - r = q by omega]; exact s3_rot r p q
      rw [e]
      exact Rch.stop hres 0
  obtain ⟨g, R⟩ := letters hres l 1 (p + r, -r, q + r) hl.2 hg H
  obtain ⟨g1, g2, _⟩ := g
  refine ⟨by omega, by omega, ?_⟩
  have := R 64 (by have := hl.1; omega)
  unfold redOut
  unfold ROW at this
  rw [show (((l.foldl st1 (p + r, -r, q + r)).1.natAbs : Nat) : Int) = (l.foldl st1 (p + r, -r, q + r)).1 by omega, show (((l.foldl st1 (p + r, -r, q + r)).2.2.natAbs : Nat) : Int) = (l.foldl st1 (p + r, -r, q + r)).2.2 by omega]
  exact this
end Mine
end

/- Pl -/
noncomputable section
open PySem PySem.W PySem.Spec PySem.Calls PyProof.Rows

namespace Mine
theorem tri_bd {p q r : Int} (h : Tri (p, q, r)) : (0 ≤ p ∧ p ≤ 5) ∧ (0 ≤ q ∧ q ≤ 5) ∧ (0 ≤ r ∧ r ≤ 5) ∧ 0 < p * q + p * r + q * r := by
  have := tri_all (P := fun x => decide ((0 ≤ x.1 ∧ x.1 ≤ 5) ∧ (0 ≤ x.2.1 ∧ x.2.1 ≤ 5) ∧ (0 ≤ x.2.2 ∧ x.2.2 ≤ 5) ∧ 0 < x.1 * x.2.1 + x.1 * x.2.2 + x.2.1 * x.2.2)) (by decide +kernel) h
  exact of_decide_eq_true this
theorem red_law {p q r : Int} (h : Tri (p, q, r)) {l : List Int} (hl : okLet l) :
    (l.foldl st1 (p + r, -r, q + r)).1.natAbs ≠ 0 ∧ (l.foldl st1 (p + r, -r, q + r)).2.2.natAbs ≠ 0 ∧ redOut (l.foldl st1 (p + r, -r, q + r)) = s3 p q r := by
  obtain ⟨⟨hp, _⟩, ⟨hq, _⟩, ⟨hr, _⟩, hd⟩ := tri_bd h
  exact red_core hp hq hr hd hl
theorem red_fits {p q r : Int} (h : Tri (p, q, r)) {l : List Int} (hl : okLet l) :
    (l.foldl st1 (p + r, -r, q + r)).1.natAbs < 2 ^ 60 ∧ (l.foldl st1 (p + r, -r, q + r)).2.1.natAbs < 2 ^ 60 ∧ (l.foldl st1 (p + r, -r, q + r)).2.2.natAbs < 2 ^ 60 := by
  obtain ⟨hp, hq, hr, _⟩ := tri_bd h
  have := fold_fits hl (x0_bdd hp hq hr)
  unfold bdd at this
  omega
theorem red_spec (w : World) (mean : ExcName → Option Value) (mg mb : PySem.Str → Option Value) (news : List (Addr × Obj)) (x : Int × Int × Int) (tb : Tok)
    (h1 : x.1.natAbs < 2 ^ 60) (h2 : x.2.1.natAbs < 2 ^ 60) (h3 : x.2.2.natAbs < 2 ^ 60) (n1 : x.1.natAbs ≠ 0) (n3 : x.2.2.natAbs ≠ 0) :
    Spec w mean mg mb 4 106 news [.bytes (lineOf x) tb] (redRes news (redOut x)) := by
  by_cases n2 : x.2.1.natAbs = 0
  · exact red2_spec w mean mg mb news x tb h1 h2 h3 n1 n2 n3
  · exact red3_spec w mean mg mb news x tb h1 h2 h3 n1 n2 n3
end Mine
end

/- Eqf -/
noncomputable section
open PySem PySem.W PySem.Spec PySem.Calls PyProof.Rows

namespace Mine
section
variable {prog : Program} {w : World} {A : Around} {E : Value → Shared → Prop} {s : Shared}
theorem isSame_fl {a b : UInt64} {t u : Tok} {Q : Bool → Shared → Prop} (ht : @LT.lt Nat _ 0 t) (hu : @LT.lt Nat _ 0 u) (hb : NoneBooked s.heap) (hne : a ≠ b → ¬ @Eq Nat t u) (h : ∀ k, (k = true → a = b) → Q k s) :
    wpAny (model prog w) A (isSame (.float a t) (.float b u)) Q E s := by
  show wpAny (model prog w) A (isSame.created (a == b && !Float64.isNaN a) t u) Q E s
  unfold isSame.created
  refine wpAny_ite ?_
  split
  · rename_i h0
    exfalso
    rcases Bool.or_eq_true_iff.mp h0 with h0 | h0
    · have e : @Eq Nat t 0 := eq_of_beq h0
      omega
    · have e : @Eq Nat u 0 := eq_of_beq h0
      omega
  refine wpAny_ite ?_
  split
  · rename_i h1
    refine wpAny_pure (h _ fun _ => ?_)
    by_cases e : a = b
    · exact e
    · exact absurd (eq_of_beq h1) (hne e)
  refine wpAny_ite ?_
  split
  · exact wpAny_pure (h _ fun e => by cases e)
  rename_i h2
  have hab : a = b := by
    by_cases e : a = b
    · exact e
    · exfalso
      apply h2
      have : (a == b) = false := by simpa using e
      rw [this]; rfl
  refine wpAny_bind (wpAny_sharingNotTold_none hb ?_)
  first | rw [if_neg Bool.false_ne_true] | simp only [Bool.false_eq_true, if_false]
  refine wpAny_bind (wpAny_sharingNotTold_none hb ?_)
  first | rw [if_neg Bool.false_ne_true] | simp only [Bool.false_eq_true, if_false]
  exact wpAny_bind (wpAny_rule (wpAny_bind (wpAny_askSetting (wpAny_pure (h _ fun _ => hab)))))
theorem eqb_fl {a b : UInt64} {t u : Tok} {Q : Bool → Shared → Prop} (ht : @LT.lt Nat _ 0 t) (hu : @LT.lt Nat _ 0 u) (hb : NoneBooked s.heap) (hne : a ≠ b → ¬ @Eq Nat t u) (hs : a = b → Float64.cmp a b = some .eq) (h : Q (Float64.cmp a b == some .eq) s) :
    wpAny (model prog w) A (eqBool (.float a t) (.float b u)) Q E s := by
  unfold eqBool
  show wpAny _ _ (if (Value.float a t == Value.float b u) = true then _ else _) Q E s
  have tt : a = b → Q true s := fun e => by rw [hs e] at h; exact h
  by_cases hab : (Value.float a t == Value.float b u) = true
  · rw [if_pos hab]
    have e : a = b := by have := eq_of_beq hab; injection this
    exact wpAny_bind (wpAny_rule (wpAny_pure (tt e)))
  · rw [if_neg hab]
    refine wpAny_bind (isSame_fl ht hu hb hne fun k hk => ?_)
    cases k with
    | true => exact wpAny_pure (tt (hk rfl))
    | false =>
      show wpAny _ _ (richCompare CmpOp.Eq (Value.float a t) (Value.float b u) >>= truthOfDropped) Q E s
      refine wpAny_bind (AutoFloatOps.eq_0 (Q := fun v s' => wpAny (model prog w) A (truthOfDropped v) Q E s') ?_)
      exact wpAny_truthy_bool h
theorem eqat_fl {a b : UInt64} {t u : Tok} (ht : @LT.lt Nat _ 0 t) (hu : @LT.lt Nat _ 0 u) (hb : NoneBooked s.heap) (hne : a ≠ b → ¬ @Eq Nat t u) (hs : a = b → Float64.cmp a b = some .eq) : SeqAt.EqAt A s (.float a t) (.float b u) (Float64.cmp a b == some .eq) :=
  fun _ _ _ _ hq => eqb_fl ht hu hb hne hs hq
noncomputable abbrev tup2 (a b : UInt64) (t u : Tok) : Obj := { cls := .type "tuple", data := .seq #[.float a t, .float b u] }
theorem tup_mem {h₀ h : Heap} {L : Addr} {nw : List (Addr × Obj)} {l : Addr} {vs : Array Value} (N : News h₀ L h nw) (hm : (l, ({ cls := .type "tuple", data := .seq vs } : Obj)) ∈ nw) : h.IsTuple l vs := ⟨_, N.get hm, rfl, _, rfl⟩
variable {h₀ : Heap} {L : Addr} {m : PySem.Str → Option Value} {nw : List (Addr × Obj)}
theorem ne_tup2 {a b x y : UInt64} {t u t' u' : Tok} {l l' : Addr} {Q : Value → Shared → Prop} (N : News h₀ L s.heap nw) (h1 : (l, tup2 a b t u) ∈ nw) (h2 : (l', tup2 x y t' u') ∈ nw) (hb : NoneBooked s.heap) (ht : @LT.lt Nat _ 0 t) (hu : @LT.lt Nat _ 0 u) (ht' : @LT.lt Nat _ 0 t') (hu' : @LT.lt Nat _ 0 u') (ex : a = x) (ey : b = y) (ca : Float64.cmp a a = some .eq) (cb : Float64.cmp b b = some .eq) (hA : A.units < cLine) (h : Q (.bool false) s) :
    wpAny (model prog w) A (compareOp .NotEq (.ref l) (.ref l')) Q E s := by
  subst ex ey
  have R := SeqAt.RcNeAt.tuples (A := A) (e := fun _ => true) (tup_mem N h1) (tup_mem N h2) hA (fun j j1 j2 => by
    match j, j1, j2 with
    | 0, _, _ =>
      have q : SeqAt.EqAt A.in1 s (.float a t) (.float a t') (Float64.cmp a a == some .eq) := eqat_fl ht ht' hb (fun n => absurd rfl n) (fun _ => ca)
      rw [ca] at q; exact q
    | 1, _, _ =>
      have q : SeqAt.EqAt A.in1 s (.float b u) (.float b u') (Float64.cmp b b == some .eq) := eqat_fl hu hu' hb (fun n => absurd rfl n) (fun _ => cb)
      rw [cb] at q; exact q
    | n + 2, q, _ => exact absurd q (by simp))
  exact R prog w E Q h
noncomputable def eq3 (r r' : UInt64 × UInt64 × UInt64) : Bool := eqf r.1 r'.1 && eqf r.2.1 r'.2.1 && eqf r.2.2 r'.2.2
theorem eq_tup3 {r r' : UInt64 × UInt64 × UInt64} {t1 t2 t3 u1 u2 u3 : Tok} {l l' : Addr} {Q : Value → Shared → Prop} (N : News h₀ L s.heap nw) (h1 : (l, tup3 r t1 t2 t3) ∈ nw) (h2 : (l', tup3 r' u1 u2 u3) ∈ nw) (hb : NoneBooked s.heap)
    (p1 : @LT.lt Nat _ 0 t1) (p2 : @LT.lt Nat _ 0 t2) (p3 : @LT.lt Nat _ 0 t3) (q1 : @LT.lt Nat _ t1 u1) (q2 : @LT.lt Nat _ t2 u2) (q3 : @LT.lt Nat _ t3 u3)
    (c1 : Float64.cmp r.1 r.1 = some .eq) (c2 : Float64.cmp r.2.1 r.2.1 = some .eq) (c3 : Float64.cmp r.2.2 r.2.2 = some .eq) (hA : A.units < cLine) (h : Q (.bool (eq3 r r')) s) :
    wpAny (model prog w) A (compareOp .Eq (.ref l) (.ref l')) Q E s := by
  refine SeqAt.eq_tupleAt (e := fun j => if j = 0 then eqf r.1 r'.1 else if j = 1 then eqf r.2.1 r'.2.1 else eqf r.2.2 r'.2.2) (tup_mem N h1) (tup_mem N h2) hA (fun j j1 j2 => by
    match j, j1, j2 with
    | 0, _, _ => exact eqat_fl p1 (Nat.lt_trans p1 q1) hb (fun _ e => by omega) (fun e => by rw [← e]; exact c1)
    | 1, _, _ => exact eqat_fl p2 (Nat.lt_trans p2 q2) hb (fun _ e => by omega) (fun e => by rw [← e]; exact c2)
    | 2, _, _ => exact eqat_fl p3 (Nat.lt_trans p3 q3) hb (fun _ e => by omega) (fun e => by rw [← e]; exact c3)
    | n + 3, q, _ => exact absurd q (by simp)) ?_
  have e : ((List.range 3).all (fun j => if j = 0 then eqf r.1 r'.1 else if j = 1 then eqf r.2.1 r'.2.1 else eqf r.2.2 r'.2.2) && (3 : Nat) == 3) = eq3 r r' := by
    simp [List.range, List.range.loop, eq3, Bool.and_assoc]
  show Q (.bool ((List.range 3).all (fun j => if j = 0 then eqf r.1 r'.1 else if j = 1 then eqf r.2.1 r'.2.1 else eqf r.2.2 r'.2.2) && (3 : Nat) == 3)) s
  rw [e]
  exact h
theorem told_tail {value slice : PySem.Expr} {l : Addr} {r : UInt64 × UInt64 × UInt64} {t1 t2 t3 tx : Tok} {Q : Value → Shared → Prop} (F : Fr h₀ L s.heap m) (N : News h₀ L s.heap nw) (hm : (l, tup3 r t1 t2 t3) ∈ nw)
    (h : ∀ D h', Fr h₀ L h' m → News h₀ L h' ((D, tup2 r.2.1 r.2.2 t2 t3) :: nw) → (∀ p ∈ nw, p.1 < D) → Q (.ref D) { s with heap := h' })
    (hs : subscripted slice false (.ref l) (.ref s.heap.objs.size) = operate [.ref s.heap.objs.size, .ref l] (getItem (.ref l) (.ref s.heap.objs.size))) (hg : ∀ r, letTemporaryGo value (.ref l) r = pure ()) :
    wpAny (model prog w) A (subscriptTail value slice (.ref l) (.ref s.heap.objs.size)) Q E { s with heap := s.heap.push { cls := .type "slice", data := .fields #[.int 1 tx, .none, .none] } } :=
  slice_tuple_from (a := 1) F N (News.isTup N hm) (Nat.le_refl _) (by show 1 ≤ 3; decide) (fun h' F' N' => h _ h' F' N' fun p hp => Nat.lt_succ_of_lt (Heap.lt_size (N p hp).1)) hs hg (by show 3 ≤ sizeLine; rw [sizeLine_eq]; decide)
end
end Mine
end

/- Cf -/
noncomputable section
open PySem PySem.W PySem.Spec PySem.Calls PyProof.Rows

namespace Mine
theorem bool_or_not {a b : Bool} (h : (a || b) = true) (ha : a = false) : b = true := by rw [ha] at h; exact h
theorem hzV {p q r : Int} (h : Tri (p, q, r)) : eqf (mn (q8 p) (q8 q) (q8 r)) (mx (q8 p) (q8 q) (q8 r)) = false → Float64.isZero (rg (q8 p) (q8 q) (q8 r)) = false ∧ Float64.isZero (mx (q8 p) (q8 q) (q8 r)) = false := fun e => by
  have := bool_or_not (tri_all f1 h : ck1 (p, q, r) = true) e
  simpa using this
theorem hzL {k j i : Int} (h : Tri (k, j, i)) (hb : bck (k, j, i) = (k, j, i)) : eqf (mn (q8 k) (q8 j) (q8 i)) (mx (q8 k) (q8 j) (q8 i)) = false → Float64.isZero (rg (q8 k) (q8 j) (q8 i)) = false ∧ Float64.isZero (Float64.add (mx (q8 k) (q8 j) (q8 i)) (mn (q8 k) (q8 j) (q8 i))) = false ∧ Float64.isZero (Float64.sub (Float64.sub 4611686018427387904 (mx (q8 k) (q8 j) (q8 i))) (mn (q8 k) (q8 j) (q8 i))) = false := fun e => by
  have h1 := tri_all in_tab h
  simp only [Bool.and_eq_true] at h1
  obtain ⟨v, hv⟩ := Option.isSome_iff_exists.mp h1.1.1.2
  rw [hb] at hv
  have m := look_mem hv
  have c := List.all_eq_true.mp f2 _ m
  dsimp only at c
  have := bool_or_not c e
  simpa [and_assoc] using this
theorem n72 {x : Int × Int × Int} (h : Tri x) : Float64.isNaN (Float64.mul (Float64.ofInt 72) (V x).1) = false ∧ Float64.isInf (Float64.mul (Float64.ofInt 72) (V x).1) = false := by
  have := (tri_all f3 h : ck3 x = true)
  simpa [ck3] using this
theorem selfV {x : Int × Int × Int} (h : Tri x) : Float64.cmp (V x).2.1 (V x).2.1 = some .eq ∧ Float64.cmp (V x).2.2 (V x).2.2 = some .eq := by
  have := tri_all f4 h
  simp only [selfs, Bool.and_eq_true, beq_iff_eq] at this
  exact ⟨this.2.1.2, this.2.2⟩
theorem lookW {x : Int × Int × Int} (h : Tri x) : (bck x, W (bck x)) ∈ tabL := by
  have h1 := tri_all in_tab h
  simp only [Bool.and_eq_true] at h1
  obtain ⟨v, hv⟩ := Option.isSome_iff_exists.mp h1.1.1.2
  have := look_mem hv
  unfold W
  rw [hv]
  exact this
theorem selfW {k j i : Int} (h : Tri (k, j, i)) (hb : bck (k, j, i) = (k, j, i)) : Float64.cmp (W (k, j, i)).1 (W (k, j, i)).1 = some .eq ∧ Float64.cmp (W (k, j, i)).2.1 (W (k, j, i)).2.1 = some .eq ∧ Float64.cmp (W (k, j, i)).2.2 (W (k, j, i)).2.2 = some .eq := by
  have := List.all_eq_true.mp f6 _ (lookW h)
  rw [hb] at this
  simp only [selfs, Bool.and_eq_true, beq_iff_eq] at this
  exact ⟨this.1.1.1, this.1.1.2, this.1.2⟩
theorem eqW {k j i k' j' i' : Int} (h : Tri (k, j, i)) (hb : bck (k, j, i) = (k, j, i)) (h' : Tri (k', j', i')) (hb' : bck (k', j', i') = (k', j', i')) : eq3 (W (k, j, i)) (W (k', j', i')) = decide ((k, j, i) = (k', j', i')) := by
  have := List.all_eq_true.mp f6 _ (lookW h)
  rw [hb] at this
  simp only [Bool.and_eq_true] at this
  have := List.all_eq_true.mp this.2 _ (lookW h')
  rw [hb'] at this
  exact eq_of_beq this
/-- what the walk is told of a row -/
structure RowF (p q r i j k : Int) : Prop where
  s3 : s3 p q r = (i, j, k)
  tri : Tri (k, j, i)
  bck : bck (k, j, i) = (k, j, i)
  sh : (V (k, j, i)).2.1 = (V (p, q, r)).2.1
  va : (V (k, j, i)).2.2 = (V (p, q, r)).2.2
  hue : r72 (V (k, j, i)).1 = min ((r72 (V (p, q, r)).1).fmod 24) (24 - (r72 (V (p, q, r)).1).fmod 24)
theorem rowF {p q r : Int} (h : Tri (p, q, r)) : RowF p q r (s3 p q r).1 (s3 p q r).2.1 (s3 p q r).2.2 := by
  have h4 := tri_all f4 h
  simp only [Bool.and_eq_true, beq_iff_eq] at h4
  have h5 := tri_all f5 h
  rw [beq_iff_eq] at h5
  have a := tri_bck h
  have b := bck_bck h
  have e : bck (p, q, r) = ((s3 p q r).2.2, (s3 p q r).2.1, (s3 p q r).1) := by unfold bck; rfl
  rw [e] at h4 h5 a b
  have hs : s3 p q r = ((s3 p q r).1, (s3 p q r).2.1, (s3 p q r).2.2) := rfl

  exact RowF.mk hs a b (congrArg Prod.fst h4.1) (congrArg Prod.snd h4.1) h5
noncomputable def wordRes (news : List (Addr × Obj)) (v : Value) (nx : List (Addr × Obj)) : Prop := ∃ b t, v = .bytes b t ∧ okLet (KBw.bInts b) ∧ nx = news
theorem wordRes_of {n : Int} {news nx : List (Addr × Obj)} {v : Value} (h : nx = news ∧ ∃ t, v = .bytes (wordOf (-(n.fmod (16 ^ Int.toNat 4))).natAbs).toArray t) : wordRes news v nx := by
  obtain ⟨e, t, e2⟩ := h
  exact ⟨_, t, e2, word_ok, e⟩
theorem word_bd {n : Int} : (-(n.fmod (16 ^ Int.toNat 4))).natAbs < 2 ^ 60 := by
  have e : (16 : Int) ^ Int.toNat 4 = 65536 := by decide
  rw [e]
  have h0 : 0 ≤ n.fmod 65536 := Int.fmod_nonneg_of_pos n (by decide)
  have h1 : n.fmod 65536 < 65536 := Int.fmod_lt_of_pos n (by decide)
  omega
noncomputable def sentRes (p q r : Int) (news : List (Addr × Obj)) (v : Value) (nx : List (Addr × Obj)) : Prop := ∃ x t, v = .bytes (lineOf x) t ∧ nx = news ∧ x.1.natAbs < 2 ^ 60 ∧ x.2.1.natAbs < 2 ^ 60 ∧ x.2.2.natAbs < 2 ^ 60 ∧ x.1.natAbs ≠ 0 ∧ x.2.2.natAbs ≠ 0 ∧ redOut x = s3 p q r
theorem sentRes_of {p q r : Int} {b : Array UInt8} {news nx : List (Addr × Obj)} {v : Value} (ht : Tri (p, q, r)) (hb : okLet (KBw.bInts b)) (h : nx = news ∧ ∃ t, v = .bytes (lineOf ((KBw.bInts b).foldl st1 (p + r, -r, q + r))) t) : sentRes p q r news v nx := by
  obtain ⟨e, t, e2⟩ := h
  obtain ⟨a1, a2, a3⟩ := red_fits ht hb
  obtain ⟨b1, b2, b3⟩ := red_law ht hb
  exact ⟨_, t, e2, e, a1, a2, a3, b1, b2, b3⟩
noncomputable def rowRes (p q r : Int) (news : List (Addr × Obj)) (v : Value) (nx : List (Addr × Obj)) : Prop := ∃ l i j k t1 t2 t3 c', RowF p q r i j k ∧ v = .ref l ∧ (∀ p ∈ news, p.1 < l) ∧ nx = (l, PySem.W.listOf #[.int i t1, .int j t2, .int k t3] c') :: news
theorem rowRes_of {p q r : Int} {x : Int × Int × Int} {news nx : List (Addr × Obj)} {v : Value} (ht : Tri (p, q, r)) (e : redOut x = s3 p q r) (h : redRes news (redOut x) v nx) : rowRes p q r news v nx := by
  obtain ⟨l, t1, t2, t3, c', e1, lt, e2⟩ := h
  rw [e] at e2
  exact ⟨l, _, _, _, t1, t2, t3, c', rowF ht, e1, lt, e2⟩
theorem sorted_eq2 {p q r i j k : Int} {ns : List Int} (e : s3 p q r = (i, j, k)) (hp : ns.Perm [p, q, r]) (hs : ns.Pairwise (· ≤ ·)) : [i, j, k] = ns := by
  have hn := s3_perm p q r
  have ho := s3_sorted p q r
  rw [e] at hn ho
  refine List.Perm.eq_of_pairwise (le := (· ≤ ·)) (fun a b _ _ h1 h2 => Int.le_antisymm h1 h2) ?_ hs (hn.trans hp.symm)
  exact .cons (fun a ha => by
    rcases List.mem_cons.mp ha with rfl | ha
    · exact ho.1
    · rcases List.mem_cons.mp ha with rfl | ha
      · exact Int.le_trans ho.1 ho.2
      · cases ha) (.cons (fun a ha => by
    rcases List.mem_cons.mp ha with rfl | ha
    · exact ho.2
    · cases ha) (.cons (fun a ha => by cases ha) .nil))
end Mine
end

/- Fl -/
noncomputable section
open PySem PySem.W PySem.Spec PySem.Calls PyProof.Rows

namespace Mine
noncomputable def det (x z : Int × Int × Int) : Int := x.2.1 * z.2.2 - x.2.2 * z.2.1
noncomputable def bil (p q r : Int) (x z : Int × Int × Int) : Int := p * x.2.1 * z.2.1 + q * x.2.2 * z.2.2 + r * (x.2.1 - x.2.2) * (z.2.1 - z.2.2)
noncomputable def near (p q r : Int) : List (Int × Int × Int) := (spotsL p q r).filter fun x => decide (x.1 ≤ 10)
noncomputable def isOne (d : Int) : Bool := Nat.beq d.natAbs 1
noncomputable def tripB (x z : Int × Int × Int) (b : Int) : Int × Int × Int := (x.1 + b, z.1 + b, -b)
noncomputable def pairsT (p q r : Int) : List (Int × Int × Int) := (near p q r).flatMap fun x => ((near p q r).filter fun z => isOne (det x z)).map fun z => tripB x z (bil p q r x z)
noncomputable def inBox (y : Int × Int × Int) : Bool := decide (0 ≤ y.1) && decide (y.1 ≤ 5) && decide (0 ≤ y.2.1) && decide (y.2.1 ≤ 5) && decide (0 ≤ y.2.2) && decide (y.2.2 ≤ 5)
noncomputable def wI (y : Int × Int × Int) : Int := if y.1 = y.2.2 then 12 else if y.2.2 = 0 then (if y.2.1 = y.2.2 ∨ y.2.1 = y.1 then 8 else 4) else (if y.2.1 = y.2.2 ∨ y.2.1 = y.1 then 4 else 2)
theorem f7 : tris.all (fun x => waysOf (V (bck x)).1 (V (bck x)).2.1 == wI (bck x)) = true := by decide +kernel
noncomputable def perms6 (x : Int × Int × Int) : List (Int × Int × Int) := [(x.1, x.2.1, x.2.2), (x.1, x.2.2, x.2.1), (x.2.1, x.1, x.2.2), (x.2.1, x.2.2, x.1), (x.2.2, x.1, x.2.1), (x.2.2, x.2.1, x.1)]
noncomputable def ckT (x : Int × Int × Int) (T : List (Int × Int × Int)) : Bool := T.all (fun y => decide (bck y = bck x)) && (perms6 x).all (fun y => decide ((T.count y : Int) = wI (bck x)))
noncomputable def ckF (x : Int × Int × Int) : Bool := ckT x ((pairsT x.1 x.2.1 x.2.2).filter inBox)
noncomputable def fzN {β : Type} (n : Nat) (k : Nat → β) : β := Nat.rec (k 0) (fun m _ => k (Nat.succ m)) n
noncomputable def fzI {β : Type} (n : Int) (k : Int → β) : β := Int.rec (fun m => fzN m fun m => k (.ofNat m)) (fun m => fzN m fun m => k (.negSucc m)) n
noncomputable def fzT {β : Type} (x : Int × Int × Int) (k : Int × Int × Int → β) : β := fzI x.1 fun a => fzI x.2.1 fun b => fzI x.2.2 fun c => k (a, b, c)
noncomputable def fzL {β : Type} (l : List (Int × Int × Int)) : (List (Int × Int × Int) → β) → β := List.rec (fun k => k []) (fun x _ ih k => fzT x fun x => ih fun l => k (x :: l)) l
theorem fzN_eq {β : Type} (n : Nat) (k : Nat → β) : fzN n k = k n := by cases n <;> rfl
theorem fzI_eq {β : Type} (n : Int) (k : Int → β) : fzI n k = k n := by
  cases n with
  | ofNat m => exact fzN_eq m fun m => k (.ofNat m)
  | negSucc m => exact fzN_eq m fun m => k (.negSucc m)
theorem fzT_eq {β : Type} (x : Int × Int × Int) (k : Int × Int × Int → β) : fzT x k = k x := by unfold fzT; rw [fzI_eq, fzI_eq, fzI_eq]
theorem fzL_eq {β : Type} (l : List (Int × Int × Int)) : ∀ (k : List (Int × Int × Int) → β), fzL l k = k l := by
  induction l with
  | nil => intro k; rfl
  | cons x l ih =>
    intro k
    exact (fzT_eq x fun x => fzL l fun l => k (x :: l)).trans (ih _)
noncomputable def pairsN (p q r : Int) (N : List (Int × Int × Int)) : List (Int × Int × Int) := N.flatMap fun x => (N.filter fun z => isOne (det x z)).map fun z => tripB x z (bil p q r x z)
noncomputable def ckG (x : Int × Int × Int) : Bool := fzL ((spotsL x.1 x.2.1 x.2.2)) fun S => fzL (S.filter fun x => decide (x.1 ≤ 10)) fun N => fzL (pairsN x.1 x.2.1 x.2.2 N) fun T => fzL (T.filter inBox) fun T => ckT x T
theorem ckG_eq (x : Int × Int × Int) : ckG x = ckF x := by unfold ckG; rw [fzL_eq, fzL_eq, fzL_eq, fzL_eq]; rfl
noncomputable def trisA (a : Int) : List (Int × Int × Int) := five.flatMap fun b => five.map fun c => partsD a b c
theorem f9_0 : (trisA 0).all (fun x => fzT x ckG) = true := by decide +kernel
theorem f9_1 : (trisA 1).all (fun x => fzT x ckG) = true := by decide +kernel
theorem f9_2 : (trisA 2).all (fun x => fzT x ckG) = true := by decide +kernel
theorem f9_3 : (trisA 3).all (fun x => fzT x ckG) = true := by decide +kernel
theorem f9_4 : (trisA 4).all (fun x => fzT x ckG) = true := by decide +kernel
theorem f9 : tris.all (fun x => fzT x ckG) = true := by
  have e : tris = five.flatMap trisA := rfl
  rw [e, List.all_flatMap]
  have h : ∀ a ∈ five, (trisA a).all (fun x => fzT x ckG) = true := fun a ha => by
    unfold five at ha
    simp only [List.mem_cons, List.not_mem_nil, or_false] at ha
    rcases ha with rfl | rfl | rfl | rfl | rfl
    · exact f9_0
    · exact f9_1
    · exact f9_2
    · exact f9_3
    · exact f9_4
  exact List.all_eq_true.mpr h
theorem f8 : tris.all ckF = true := by
  rw [← f9]
  exact congrArg (tris.all ·) (funext fun x => (ckG_eq x).symm.trans (fzT_eq x ckG).symm)
theorem perm2 {e f x y : Int} (h : [e, f].Perm [x, y]) : (e = x ∧ f = y) ∨ (e = y ∧ f = x) := by
  have he : e ∈ [x, y] := h.subset (.head _)
  simp only [List.mem_cons, List.not_mem_nil, or_false] at he
  rcases he with rfl | rfl
  · have := (List.perm_cons e).mp h
    exact .inl ⟨rfl, by simpa using this⟩
  · have := (List.perm_cons e).mp (h.trans (List.Perm.swap e x []))
    exact .inr ⟨rfl, by simpa using this⟩
theorem perm_of {a b c d e f : Int} (h : bck (d, e, f) = bck (a, b, c)) : (d, e, f) ∈ perms6 (a, b, c) := by
  unfold bck at h
  simp only [Prod.mk.injEq] at h
  have h1 := s3_perm d e f
  rw [h.1, h.2.1, h.2.2] at h1
  have hp : [d, e, f].Perm [a, b, c] := h1.symm.trans (s3_perm a b c)
  have hd : d ∈ [a, b, c] := hp.subset (.head _)
  unfold perms6
  simp only [List.mem_cons, List.not_mem_nil, or_false] at hd ⊢
  rcases hd with rfl | rfl | rfl
  · rcases perm2 ((List.perm_cons d).mp hp) with ⟨rfl, rfl⟩ | ⟨rfl, rfl⟩
    · exact .inl rfl
    · exact .inr (.inl rfl)
  · rcases perm2 ((List.perm_cons d).mp (hp.trans (List.Perm.swap d a [c]))) with ⟨rfl, rfl⟩ | ⟨rfl, rfl⟩
    · exact .inr (.inr (.inl rfl))
    · exact .inr (.inr (.inr (.inl rfl)))
  · rcases perm2 ((List.perm_cons d).mp (hp.trans (((List.Perm.swap d b []).cons a).trans (List.Perm.swap d a [b])))) with ⟨rfl, rfl⟩ | ⟨rfl, rfl⟩
    · exact .inr (.inr (.inr (.inr (.inl rfl))))
    · exact .inr (.inr (.inr (.inr (.inr rfl))))
theorem sum_filter {α : Type} (l : List α) (P : α → Bool) (g : α → Int) : ((l.filter P).map g).sum = (l.map fun x => if P x = true then g x else 0).sum := by
  induction l with
  | nil => rfl
  | cons a l ih =>
    rw [List.filter_cons, List.map_cons, List.sum_cons, ← ih]
    by_cases h : P a = true
    · rw [if_pos h, if_pos h, List.map_cons, List.sum_cons]
    · rw [if_neg h, if_neg h, Int.zero_add]
theorem count_map {α : Type} (l : List α) (g : α → Int × Int × Int) (y : Int × Int × Int) : ((l.map g).count y : Int) = (l.map fun x => if g x = y then (1 : Int) else 0).sum := by
  induction l with
  | nil => rfl
  | cons a l ih =>
    rw [List.map_cons, List.count_cons, List.map_cons, List.sum_cons, ← ih]
    by_cases h : g a = y
    · rw [if_pos h]; simp [h]; omega
    · rw [if_neg h]; simp [h]
theorem count_flat {α : Type} (l : List α) (g : α → List (Int × Int × Int)) (y : Int × Int × Int) : ((l.flatMap g).count y : Int) = (l.map fun x => ((g x).count y : Int)).sum := by
  induction l with
  | nil => rfl
  | cons a l ih =>
    rw [List.flatMap_cons, List.count_append, List.map_cons, List.sum_cons, ← ih]
    push_cast
    rfl
theorem sum_congr {α : Type} (l : List α) (g h : α → Int) (e : ∀ x, g x = h x) : (l.map g).sum = (l.map h).sum := by rw [show g = h from funext e]
theorem sum_zero {α : Type} (l : List α) (g : α → Int) (e : ∀ x, g x = 0) : (l.map g).sum = 0 := by
  induction l with
  | nil => rfl
  | cons a l ih => rw [List.map_cons, List.sum_cons, e, ih]; rfl
theorem hit_eq {p q r s t v : Int} {x z : Int × Int × Int} (hx : x.1 = s + v) (hz : z.1 = t + v) : hit p q r v x z = if isOne (det x z) = true then (if tripB x z (bil p q r x z) = (s, t, v) then 1 else 0) else 0 := by
  unfold hit
  have e1 : ((if x.2.1 * z.2.2 - x.2.2 * z.2.1 < 0 then -(x.2.1 * z.2.2 - x.2.2 * z.2.1) else x.2.1 * z.2.2 - x.2.2 * z.2.1) = 1) ↔ isOne (det x z) = true := by
    unfold isOne det
    rw [Nat.beq_eq]
    generalize x.2.1 * z.2.2 - x.2.2 * z.2.1 = d
    split <;> omega
  have e2 : (p * x.2.1 * z.2.1 + q * x.2.2 * z.2.2 + r * (x.2.1 - x.2.2) * (z.2.1 - z.2.2) = -v) ↔ tripB x z (bil p q r x z) = (s, t, v) := by
    unfold tripB
    show bil p q r x z = -v ↔ _
    generalize bil p q r x z = b
    simp only [Prod.mk.injEq]
    omega
  by_cases h1 : isOne (det x z) = true
  · rw [if_pos h1]
    by_cases h2 : tripB x z (bil p q r x z) = (s, t, v)
    · rw [if_pos h2, if_pos ⟨e1.mpr h1, e2.mpr h2⟩]
    · rw [if_neg h2, if_neg (fun h => h2 (e2.mp h.2))]
  · rw [if_neg h1, if_neg (fun h => h1 (e1.mp h.1))]
theorem fits_count {p q r s t v : Int} (h1 : s + v ≤ 10) (h2 : t + v ≤ 10) : fitsOf p q r s t v = ((pairsT p q r).count (s, t, v) : Int) := by
  unfold fitsOf pairsT
  rw [count_flat]
  have inner : ∀ x : Int × Int × Int, ((((near p q r).filter fun z => isOne (det x z)).map fun z => tripB x z (bil p q r x z)).count (s, t, v) : Int) = ((spotsL p q r).map fun z => if z.1 ≤ 10 then (if isOne (det x z) = true then (if tripB x z (bil p q r x z) = (s, t, v) then (1 : Int) else 0) else 0) else 0).sum := by
    intro x
    rw [count_map, sum_filter]
    unfold near
    rw [sum_filter]
    exact sum_congr _ _ _ fun z => by simp only [decide_eq_true_eq]
  rw [sum_congr _ _ _ inner]
  unfold near
  rw [sum_filter]
  unfold firstsOf
  rw [sum_filter]
  refine sum_congr _ _ _ fun x => ?_
  simp only [decide_eq_true_eq]
  by_cases hx : x.1 = s + v
  · rw [if_pos hx, if_pos (by omega)]
    unfold hitsOf firstsOf
    rw [sum_filter]
    refine sum_congr _ _ _ fun z => ?_
    simp only [decide_eq_true_eq]
    by_cases hz : z.1 = t + v
    · rw [if_pos hz, if_pos (by omega), hit_eq hx hz]
    · rw [if_neg hz]
      by_cases hz2 : z.1 ≤ 10
      · rw [if_pos hz2]
        split
        · rw [if_neg]
          unfold tripB
          simp only [Prod.mk.injEq]
          omega
        · rfl
      · rw [if_neg hz2]
  · rw [if_neg hx]
    by_cases hx2 : x.1 ≤ 10
    · rw [if_pos hx2]
      refine (sum_zero _ _ fun z => ?_).symm
      by_cases hz2 : z.1 ≤ 10
      · rw [if_pos hz2]
        split
        · rw [if_neg]
          unfold tripB
          simp only [Prod.mk.injEq]
          omega
        · rfl
      · rw [if_neg hz2]
    · rw [if_neg hx2]
theorem fits_law {p q r a b c i j k i' j' k' : Int} (h : Tri (p, q, r)) (h' : Tri (a, b, c)) (f : RowF p q r i j k) (f' : RowF a b c i' j' k') : fitsOf p q r a b c = if (k, j, i) = (k', j', i') then waysOf (V (k, j, i)).1 (V (k, j, i)).2.1 else 0 := by
  obtain ⟨ha, hb, hc, _⟩ := tri_bd h'
  rw [fits_count (by omega) (by omega)]
  have e : bck (p, q, r) = (k, j, i) := by unfold bck; rw [f.s3]
  have e' : bck (a, b, c) = (k', j', i') := by unfold bck; rw [f'.s3]
  have hc8 := tri_all f8 h
  unfold ckF ckT at hc8
  simp only [Bool.and_eq_true, List.all_eq_true, decide_eq_true_eq] at hc8
  have hw := eq_of_beq (tri_all f7 h)
  rw [e] at hw hc8
  have hin : inBox (a, b, c) = true := by unfold inBox; simp only [Bool.and_eq_true, decide_eq_true_eq]; omega
  have hcf : (((pairsT p q r).filter inBox).count (a, b, c)) = (pairsT p q r).count (a, b, c) := List.count_filter hin
  rw [hw]
  by_cases he : (k, j, i) = (k', j', i')
  · rw [if_pos he, ← hcf]
    exact hc8.2 _ (perm_of (by rw [e, e', he]))
  · rw [if_neg he, ← hcf]
    have : (a, b, c) ∉ (pairsT p q r).filter inBox := fun hm => he (by
      have := hc8.1 _ hm
      rw [e'] at this
      exact this.symm)
    rw [List.count_eq_zero_of_not_mem this]
    rfl
end Mine
end

/- Tl -/
noncomputable section
open PySem PySem.W PySem.Spec PySem.Calls PyProof.Rows PyProof.Rows.LCg

namespace Mine
section
variable {prog : Program} {w : World} {A : Around} {E : Value → Shared → Prop} {s : Shared} {h₀ : Heap} {env : Env}
theorem fr_but {L I : Addr} {h h' : Heap} {m : PySem.Str → Option Value} (F : Fr h₀ L h m) (hL : L ≠ I) (hn : h₀.get? I = none) (hs : ∀ b o, b ≠ I → h.get? b = some o → h'.get? b = some o) : Fr h₀ L h' m :=
  ⟨F.ns.at' fun o e => hs _ o hL e, fun b o e => hs b o (fun e2 => by rw [e2, hn] at e; cases e) (F.keep b o e), F.above⟩
noncomputable def TwoEnd (h₀ : Heap) (L I D : Addr) (oI oD : Obj) (vars : List PySem.Str) (m₀ : PySem.Str → Option Value) (K : Nat → List (Addr × Obj) → Prop) (s₁ : Shared) (f : Flow) (s₂ : Shared) : Prop :=
  f = .next ∧ ∃ h' tk' m' nx', s₂ = { s₁ with heap := h', toks := tk' } ∧ Fr h₀ L h' m' ∧ News h₀ L h' ((I, oI) :: nx') ∧ (D, oD) ∈ nx' ∧ (∀ p ∈ nx', p.1 ≠ I) ∧ (∀ z, z ∉ vars → m' z = m₀ z) ∧ K tk' nx'
noncomputable def TwoJ (base : List (Addr × Obj)) (I : Addr) (m₀ : PySem.Str → Option Value) (n0 : Nat) (K1 K2 : Nat → List (Addr × Obj) → Prop) : Nat → Nat → List (Addr × Obj) → (PySem.Str → Option Value) → Prop
  | 0, tk, nx, m => tk = n0 ∧ nx = base ∧ m = m₀ ∧ ∀ p ∈ base, p.1 < I
  | 1, tk, nx, _ => K1 tk nx
  | _, tk, nx, _ => K2 tk nx
theorem two_turns {target : PySem.Expr} {body : List Stmt} {Q : Flow → Shared → Prop} {D T1 T2 : Addr} {base : List (Addr × Obj)} {m₀ : PySem.Str → Option Value} (vars : List PySem.Str) (K1 K2 : Nat → List (Addr × Obj) → Prop) (hh : A.handled = none) (hE : PassesOwn (model prog w) A env E)
    (F : Fr h₀ env.locals s.heap m₀) (N : News h₀ env.locals s.heap base) (hm : (D, tupL #[.ref T1, .ref T2]) ∈ base)
    (t1 : ∀ I oI h, (∀ p ∈ base, p.1 < I) → Fr h₀ env.locals h m₀ → News h₀ env.locals h ((I, oI) :: base) →
      wpAny (model prog w) A (assign target env (.ref T1)) (fun _ s₃ => wpAny (model prog w) A (execs body env) (TwoEnd h₀ env.locals I D oI (tupL #[.ref T1, .ref T2]) vars m₀ K1 s) E s₃) E { s with heap := h })
    (t2 : ∀ I oI u nx h tk, (∀ p ∈ base, p.1 < I) → K1 tk nx → (D, tupL #[.ref T1, .ref T2]) ∈ nx → (∀ p ∈ nx, p.1 ≠ I) → Fr h₀ env.locals h (ovr vars u m₀) → News h₀ env.locals h ((I, oI) :: nx) →
      wpAny (model prog w) A (assign target env (.ref T2)) (fun _ s₃ => wpAny (model prog w) A (execs body env) (TwoEnd h₀ env.locals I D oI (tupL #[.ref T1, .ref T2]) vars m₀ K2 s) E s₃) E { s with heap := h, toks := tk })
    (done : ∀ u nx h tk, K2 tk nx → Fr h₀ env.locals h (ovr vars u m₀) → News h₀ env.locals h nx → Q .next { s with heap := h, toks := tk }) :
    wpAny (model prog w) A (pyIter (.ref D)) (fun it s₂ => codeAny (model prog w) A (.forLoop target it body [] env) (fun r s' => match r with | .ok f => Q f s' | .error e => cameBackBy (model prog w) A env E e s') s₂) E s := by
  have hax := N _ hm
  have ht : s.heap.IsTuple D #[.ref T1, .ref T2] := ⟨_, hax.1, rfl, _, rfl⟩
  refine wpAny_pyIter_tuple ht ?_
  generalize hI : s.heap.objs.size = I
  have hnew : h₀.get? I = none := by rw [← hI]; exact next_is_new F
  have hL : env.locals ≠ I := fun e => absurd F.ns.lt (by rw [e, hI]; exact Nat.lt_irrefl _)
  have hlt : ∀ p ∈ base, p.1 < I := fun p hp => by rw [← hI]; exact Heap.lt_size (N p hp).1
  refine codeAny_forLoop_any (fun k s' => ∃ i h tk m nx oI, k + i = 2 ∧ s' = { s with heap := h, toks := tk } ∧ h.IsTupleIter I D i ∧ Fr h₀ env.locals h m ∧ News h₀ env.locals h ((I, oI) :: nx) ∧ (D, tupL #[.ref T1, .ref T2]) ∈ nx ∧ (∀ p ∈ nx, p.1 ≠ I) ∧ (∀ z, z ∉ vars → m z = m₀ z) ∧ TwoJ base I m₀ s.toks K1 K2 i tk nx m) ?_ 2 ?_
  · rintro k s' ⟨i, h, tk, m, nx, oI, hk, rfl, hit, F₁, N₁, hD, hne, hmz, hJ⟩
    have htup : h.IsTuple D #[.ref T1, .ref T2] := ⟨_, (N₁ _ (.tail _ hD)).1, rfl, _, rfl⟩
    have keep : ∀ h', (∀ b o, b ≠ I → h.get? b = some o → h'.get? b = some o) → Fr h₀ env.locals h' m ∧ News h₀ env.locals h' nx := fun h' hs =>
      ⟨fr_but F₁ hL hnew hs, fun p hp => ⟨hs _ _ (hne p hp) (N₁ p (.tail _ hp)).1, (N₁ p (.tail _ hp)).2⟩⟩
    have hi : i = 0 ∨ i = 1 ∨ i = 2 := by omega
    rcases hi with rfl | rfl | rfl
    · obtain ⟨rfl, rfl, rfl, hb⟩ := hJ
      refine wpAny_pyNext_tuple_item (x := .ref T1) hit htup rfl fun h' hit' hs' => ?_
      obtain ⟨F₂, N₂⟩ := keep h' (fun b o hb e => hs'.extBut b o hb e)
      obtain ⟨oI', hoI, hcI, hdI⟩ := id hit'
      refine letGo_tupleiter hit' ?_
      refine wpAny_mono (t1 I oI' h' hb F₂ (fun p hp => by
        rcases List.mem_cons.mp hp with e | hp
        · rw [e]; exact ⟨hoI, (N₁ _ (.head _)).2⟩
        · exact N₂ p hp)) (fun _ s₃ h₃ => wpAny_mono h₃ (fun f s₄ h₄ => ?_) fun e s' x => hE e s' x) fun e s' x => hE e s' x
      obtain ⟨rfl, h4, tk4, m4, nx4, rfl, F4, N4, hD4, hne4, hmz4, hJ4⟩ := h₄
      exact ⟨k - 1, by omega, 1, h4, tk4, m4, nx4, oI', by omega, rfl, ⟨oI', (N4 _ (.head _)).1, hcI, hdI⟩, F4, N4, hD4, hne4, hmz4, hJ4⟩
    · skip
      refine wpAny_pyNext_tuple_item (x := .ref T2) hit htup rfl fun h' hit' hs' => ?_
      obtain ⟨F₂, N₂⟩ := keep h' (fun b o hb e => hs'.extBut b o hb e)
      obtain ⟨oI', hoI, hcI, hdI⟩ := id hit'
      refine letGo_tupleiter hit' ?_
      refine wpAny_mono (t2 I oI' m nx h' tk hlt hJ hD hne (by rw [ovr_self hmz]; exact F₂) (fun p hp => by
        rcases List.mem_cons.mp hp with e | hp
        · rw [e]; exact ⟨hoI, (N₁ _ (.head _)).2⟩
        · exact N₂ p hp)) (fun _ s₃ h₃ => wpAny_mono h₃ (fun f s₄ h₄ => ?_) fun e s' x => hE e s' x) fun e s' x => hE e s' x
      obtain ⟨rfl, h4, tk4, m4, nx4, rfl, F4, N4, hD4, hne4, hmz4, hJ4⟩ := h₄
      exact ⟨k - 1, by omega, 2, h4, tk4, m4, nx4, oI', by omega, rfl, ⟨oI', (N4 _ (.head _)).1, hcI, hdI⟩, F4, N4, hD4, hne4, hmz4, hJ4⟩
    · refine wpAny_pyNext_tuple_end hh hit htup rfl fun h' hs' => ?_
      obtain ⟨F₂, N₂⟩ := keep h' fun b o hb e => hs' b o hb e
      refine wpAny_execs_nil ?_
      rw [← ovr_self hmz] at F₂
      exact done m nx h' tk hJ F₂ N₂
  · have g : (s.heap.push { cls := .type "tuple_iterator", data := .fields #[.ref D, .int 0 0] }).get? I = some { cls := .type "tuple_iterator", data := .fields #[.ref D, .int 0 0] } := by rw [← hI]; exact Heap.get?_push_size _ rfl
    refine ⟨0, _, s.toks, m₀, base, { cls := .type "tuple_iterator", data := .fields #[.ref D, .int 0 0] }, rfl, rfl, ⟨_, g, rfl, rfl⟩, F.push _, fun p hp => ?_, hm, fun p hp => Nat.ne_of_lt (hlt p hp), fun _ _ => rfl, rfl, rfl, rfl, hlt⟩
    rcases List.mem_cons.mp hp with e | hp
    · rw [e]; exact ⟨g, fun e => hL e.symm, hnew⟩
    · exact ⟨Heap.get?_push_of_some _ (N p hp).1, (N p hp).2⟩
end
end Mine
end

/- Lw -/
noncomputable section
open PySem PySem.W PySem.Spec PySem.Calls PyProof.Rows

namespace Mine
@[irreducible] noncomputable def small (a : Int) : Prop := a.natAbs < 2 ^ 1023
theorem tri_small {p q r : Int} (h : Tri (p, q, r)) : small p ∧ small q ∧ small r := by
  obtain ⟨hp, hq, hr, _⟩ := tri_bd h
  have e : (5 : Nat) < 2 ^ 1023 := by decide +kernel
  unfold small
  exact ⟨Nat.lt_of_le_of_lt (by omega) e, Nat.lt_of_le_of_lt (by omega) e, Nat.lt_of_le_of_lt (by omega) e⟩
section
variable {prog : Program} {w : World} {A : Around} {E : Value → Shared → Prop} {s : Shared} {Q : Value → Shared → Prop}
theorem div8 {a : Int} {t u : Tok} (hA : A.handled = none) (ha : small a) (h : Q (.float (q8 a) s.toks) { s with toks := s.toks + 1 }) : wpAny (model prog w) A (binaryOp .Div (.int a t) (.int 8 u)) Q E s :=
  Flt.div_ii hA (fun e => absurd e (by decide)) (fun _ e => absurd e (Flt.quot_fits (by decide) (by unfold small at ha; exact ha))) (fun _ _ => h)
theorem round72 {x : Int × Int × Int} {t : Tok} (hA : A.handled = none) (hx : Tri x) (h : Q (.int (r72 (V x).1) s.toks) { s with toks := s.toks + 1 }) : wpAny (model prog w) A (call (.builtin "round") [.float (Float64.mul (Float64.ofInt 72) (V x).1) t]) Q E s :=
  Flt.call_round_float hA (fun e => absurd e (by rw [(n72 hx).1]; exact Bool.false_ne_true)) (fun e => absurd e (by rw [(n72 hx).2]; exact Bool.false_ne_true)) (fun _ => h)
theorem ne_sorted {row srt : Addr} {p q r i j k : Int} {t1 t2 t3 : Tok} {vs' : List Value} {ns' : List Int} (ha : s.heap.IsList row [Value.int i t1, .int j t2, .int k t3].toArray) (hb : s.heap.IsList srt vs'.toArray) (hj : IntsAre vs' ns') (hf : RowF p q r i j k) (hp : ns'.Perm [p, q, r]) (hs : ns'.Pairwise (· ≤ ·)) (hu : A.units + 64 < cLine) (h : Q (.bool false) s) :
    wpAny (model prog w) A (compareOp .NotEq (.ref row) (.ref srt)) Q E s := by
  have hi : IntsAre [Value.int i t1, .int j t2, .int k t3] [i, j, k] := .cons _ _ (.cons _ _ (.cons _ _ .nil))
  refine ke_ne_ints (xs := [Value.int i t1, .int j t2, .int k t3]) (ys := vs') (ns := [i, j, k]) (ms := ns') (a := row) (b := srt) ha hb hi hj hu ?_
  rw [sorted_eq2 hf.s3 hp hs, decide_eq_true rfl]
  exact h
theorem it0 {value slice : PySem.Expr} {l : Addr} {u : Tok} {x0 : Value} {r : List Value} (hl : s.heap.IsList l (x0 :: r).toArray) (h : Q x0 s)
    (hs : subscripted slice false (.ref l) (.int 0 u) = operate [.ref l, .int 0 u] (getItem (.ref l) (.int 0 u))) : wpAny (model prog w) A (subscriptTail value slice (.ref l) (.int 0 u)) Q E s := item_listR hl (by decide) (by decide) (by simp) h hs
theorem it1 {value slice : PySem.Expr} {l : Addr} {u : Tok} {x0 x1 : Value} {r : List Value} (hl : s.heap.IsList l (x0 :: x1 :: r).toArray) (h : Q x1 s)
    (hs : subscripted slice false (.ref l) (.int 1 u) = operate [.ref l, .int 1 u] (getItem (.ref l) (.int 1 u))) : wpAny (model prog w) A (subscriptTail value slice (.ref l) (.int 1 u)) Q E s := item_listR hl (by decide) (by decide) (by simp) h hs
theorem it2 {value slice : PySem.Expr} {l : Addr} {u : Tok} {x0 x1 x2 : Value} {r : List Value} (hl : s.heap.IsList l (x0 :: x1 :: x2 :: r).toArray) (h : Q x2 s)
    (hs : subscripted slice false (.ref l) (.int 2 u) = operate [.ref l, .int 2 u] (getItem (.ref l) (.int 2 u))) : wpAny (model prog w) A (subscriptTail value slice (.ref l) (.int 2 u)) Q E s := item_listR hl (by decide) (by decide) (by simp) h hs
theorem it3 {value slice : PySem.Expr} {l : Addr} {u : Tok} {x0 x1 x2 x3 : Value} {r : List Value} (hl : s.heap.IsList l (x0 :: x1 :: x2 :: x3 :: r).toArray) (h : Q x3 s)
    (hs : subscripted slice false (.ref l) (.int 3 u) = operate [.ref l, .int 3 u] (getItem (.ref l) (.int 3 u))) : wpAny (model prog w) A (subscriptTail value slice (.ref l) (.int 3 u)) Q E s := item_listR hl (by decide) (by decide) (by simp) h hs
theorem tt0 {value slice : PySem.Expr} {l : Addr} {u : Tok} {x0 : Value} {r : List Value} (hl : IsTup s.heap l (x0 :: r).toArray) (h : Q x0 s)
    (hs : subscripted slice false (.ref l) (.int 0 u) = operate [.ref l, .int 0 u] (getItem (.ref l) (.int 0 u))) : wpAny (model prog w) A (subscriptTail value slice (.ref l) (.int 0 u)) Q E s := item_tupleT (j := 0) hl (by decide) (by decide) (by unfold seqIndex?; simp <;> omega) (by simp) h hs
theorem tt1 {value slice : PySem.Expr} {l : Addr} {u : Tok} {x0 x1 : Value} {r : List Value} (hl : IsTup s.heap l (x0 :: x1 :: r).toArray) (h : Q x1 s)
    (hs : subscripted slice false (.ref l) (.int 1 u) = operate [.ref l, .int 1 u] (getItem (.ref l) (.int 1 u))) : wpAny (model prog w) A (subscriptTail value slice (.ref l) (.int 1 u)) Q E s := item_tupleT (j := 1) hl (by decide) (by decide) (by unfold seqIndex?; simp <;> omega) (by simp) h hs
theorem ne_same {a b : Int} {t u : Tok} (e : a = b) (h : Q (.bool false) s) : wpAny (model prog w) A (compareOp .NotEq (.int a t) (.int b u)) Q E s := by
  subst e
  exact ne_int (by simpa using h)
end
theorem hue_min {p q r i j k : Int} (h : RowF p q r i j k) : r72 (V (k, j, i)).1 = if 24 - (r72 (V (p, q, r)).1).fmod 24 < (r72 (V (p, q, r)).1).fmod 24 then 24 - (r72 (V (p, q, r)).1).fmod 24 else (r72 (V (p, q, r)).1).fmod 24 := by
  rw [h.hue]
  split <;> omega
noncomputable def hsvRes (p q r : Int) (news : List (Addr × Obj)) (v : Value) (nx : List (Addr × Obj)) : Prop := ∃ l t1 t2 t3, v = .ref l ∧ (∀ p ∈ news, p.1 < l) ∧ nx = (l, tup3 (V (p, q, r)) t1 t2 t3) :: news ∧ @LT.lt Nat _ 0 t1 ∧ @LT.lt Nat _ 0 t2 ∧ @LT.lt Nat _ 0 t3
theorem hsvRes_of {p q r : Int} {news nx : List (Addr × Obj)} {n n' : Nat} {v : Value} (ht : Tri (p, q, r)) (h : tripPos news (hsvOf (q8 p) (q8 q) (q8 r)) n n' v nx) : hsvRes p q r news v nx := by
  have e := hsv_tab ht
  unfold hsvI at e
  dsimp only at e
  rw [e] at h
  exact h
noncomputable def hlsRes (p q r : Int) (news : List (Addr × Obj)) (n n' : Nat) (v : Value) (nx : List (Addr × Obj)) : Prop := tripNew news (W (p, q, r)) n n' v nx
theorem hlsRes_of {p q r : Int} {news nx : List (Addr × Obj)} {n n' : Nat} {v : Value} (ht : Tri (p, q, r)) (hb : bck (p, q, r) = (p, q, r)) (h : tripNew news (hlsOf (q8 p) (q8 q) (q8 r)) n n' v nx) : hlsRes p q r news n n' v nx := by
  have e := hls_tab ht
  rw [hb] at e
  unfold hlsI at e
  dsimp only at e
  rw [e] at h
  exact h
end Mine
end

/- Lx -/
noncomputable section
open PySem PySem.W PySem.Spec PySem.Calls PyProof.Rows PyProof.Rows.LCg

namespace Mine
noncomputable abbrev lint (w : Int) (t : Tok) : Value := .int w t
noncomputable def K1 (p q r : Int) (D lw lc : Addr) (back : List (Addr × Obj)) (tk : Nat) (nx : List (Addr × Obj)) : Prop :=
  ∃ i j k k1 u1 u2 u3 tw c1 c2, RowF p q r i j k ∧ nx = (lw, PySem.W.listOf #[.int (waysOf (V (k, j, i)).1 (V (k, j, i)).2.1) tw] c2) :: (lc, PySem.W.listOf #[.ref k1] c1) :: (k1, tup3 (W (k, j, i)) u1 u2 u3) :: back ∧
    (@LT.lt Nat _ lw k1 ∧ @LT.lt Nat _ lc k1) ∧ (@LT.lt Nat _ 0 u1 ∧ @LT.lt Nat _ 0 u2 ∧ @LT.lt Nat _ 0 u3) ∧ (@LT.lt Nat _ u1 tk ∧ @LT.lt Nat _ u2 tk ∧ @LT.lt Nat _ u3 tk)
noncomputable def K2 (p q r s t v : Int) (lw lc : Addr) (back : List (Addr × Obj)) (_ : Nat) (nx : List (Addr × Obj)) : Prop :=
  ∃ i j k i' j' k' k1 k2 u1 u2 u3 v1 v2 v3 tw tw' c1 c2, RowF p q r i j k ∧ RowF s t v i' j' k' ∧ nx = (lw, PySem.W.listOf #[.int (waysOf (V (k, j, i)).1 (V (k, j, i)).2.1) tw, .int (waysOf (V (k', j', i')).1 (V (k', j', i')).2.1) tw'] c2) :: (lc, PySem.W.listOf #[.ref k1, .ref k2] c1) :: (k2, tup3 (W (k', j', i')) v1 v2 v3) :: (k1, tup3 (W (k, j, i)) u1 u2 u3) :: back ∧
    (@LT.lt Nat _ 0 u1 ∧ @LT.lt Nat _ 0 u2 ∧ @LT.lt Nat _ 0 u3) ∧ (@LT.lt Nat _ u1 v1 ∧ @LT.lt Nat _ u2 v2 ∧ @LT.lt Nat _ u3 v3)
section
variable {prog : Program} {w : World} {A : Around} {E : Value → Shared → Prop} {s : Shared} {h₀ : Heap} {env : Env}
theorem TwoEnd.mk {L I D : Addr} {oI oD : Obj} {vars : List PySem.Str} {m₀ m' : PySem.Str → Option Value} {K : Nat → List (Addr × Obj) → Prop} {s₁ : Shared} {h' : Heap} {tk' : Nat} {nw nx' : List (Addr × Obj)} (F : Fr h₀ L h' m') (N : News h₀ L h' nw) (hK : K tk' nx') (hsub : ∀ p ∈ (I, oI) :: nx', p ∈ nw) (hD : (D, oD) ∈ nx') (hne : ∀ p ∈ nx', p.1 ≠ I) (hm : ∀ z, z ∉ vars → m' z = m₀ z) :
    TwoEnd h₀ L I D oI oD vars m₀ K s₁ .next { s₁ with heap := h', toks := tk' } := ⟨rfl, h', tk', m', nx', rfl, F, fun p hp => N p (hsub p hp), hD, hne, hm, hK⟩
noncomputable abbrev lvars : List PySem.Str := [PySem.Str.ofString "parts", PySem.Str.ofString "number", PySem.Str.ofString "row", PySem.Str.ofString "hue", PySem.Str.ofString "share", PySem.Str.ofString "value", PySem.Str.ofString "turned", PySem.Str.ofString "told"]
theorem law_turns {target : PySem.Expr} {body : List Stmt} {Q : Flow → Shared → Prop} {D T1 T2 lw lc l1 l2 : Addr} {o1 o2 a4 : Addr × Obj} {p q r a b c : Int} {t1 t2 t3 t4 t5 t6 : Tok} {c1 c2 : Nat} {m₀ : PySem.Str → Option Value} (hh : A.handled = none) (hE : PassesOwn (model prog w) A env E)
    (F : Fr h₀ env.locals s.heap m₀) (N : News h₀ env.locals s.heap [(D, tupL #[.ref T1, .ref T2]), o2, o1, (lw, PySem.W.listOf #[] 0), (lc, PySem.W.listOf #[] 0), (l2, PySem.W.listOf #[.int a t4, .int b t5, .int c t6] c2), (l1, PySem.W.listOf #[.int p t1, .int q t2, .int r t3] c1), a4])
    (b1 : ∀ I oI h, (∀ z ∈ [(D, tupL #[.ref T1, .ref T2]), o2, o1, (lw, PySem.W.listOf #[] 0), (lc, PySem.W.listOf #[] 0), (l2, PySem.W.listOf #[.int a t4, .int b t5, .int c t6] c2), (l1, PySem.W.listOf #[.int p t1, .int q t2, .int r t3] c1), a4], z.1 < I) → Fr h₀ env.locals h m₀ → News h₀ env.locals h [(I, oI), (D, tupL #[.ref T1, .ref T2]), o2, o1, (lw, PySem.W.listOf #[] 0), (lc, PySem.W.listOf #[] 0), (l2, PySem.W.listOf #[.int a t4, .int b t5, .int c t6] c2), (l1, PySem.W.listOf #[.int p t1, .int q t2, .int r t3] c1), a4] →
      wpAny (model prog w) A (assign target env (.ref T1)) (fun _ s₃ => wpAny (model prog w) A (execs body env) (TwoEnd h₀ env.locals I D oI (tupL #[.ref T1, .ref T2]) lvars m₀ (K1 p q r D lw lc [(D, tupL #[.ref T1, .ref T2]), o2, (l2, PySem.W.listOf #[.int a t4, .int b t5, .int c t6] c2), (l1, PySem.W.listOf #[.int p t1, .int q t2, .int r t3] c1)]) s) E s₃) E { s with heap := h })
    (b2 : ∀ I oI u nx h tk, (∀ z ∈ [(D, tupL #[.ref T1, .ref T2]), o2, o1, (lw, PySem.W.listOf #[] 0), (lc, PySem.W.listOf #[] 0), (l2, PySem.W.listOf #[.int a t4, .int b t5, .int c t6] c2), (l1, PySem.W.listOf #[.int p t1, .int q t2, .int r t3] c1), a4], z.1 < I) → K1 p q r D lw lc [(D, tupL #[.ref T1, .ref T2]), o2, (l2, PySem.W.listOf #[.int a t4, .int b t5, .int c t6] c2), (l1, PySem.W.listOf #[.int p t1, .int q t2, .int r t3] c1)] tk nx → (D, tupL #[.ref T1, .ref T2]) ∈ nx → (∀ z ∈ nx, @Ne Nat z.1 I) → Fr h₀ env.locals h (ovr lvars u m₀) → News h₀ env.locals h ((I, oI) :: nx) →
      wpAny (model prog w) A (assign target env (.ref T2)) (fun _ s₃ => wpAny (model prog w) A (execs body env) (TwoEnd h₀ env.locals I D oI (tupL #[.ref T1, .ref T2]) lvars m₀ (K2 p q r a b c lw lc [(D, tupL #[.ref T1, .ref T2]), (l2, PySem.W.listOf #[.int a t4, .int b t5, .int c t6] c2), (l1, PySem.W.listOf #[.int p t1, .int q t2, .int r t3] c1)]) s) E s₃) E { s with heap := h, toks := tk })
    (done : ∀ u nx h tk, K2 p q r a b c lw lc [(D, tupL #[.ref T1, .ref T2]), (l2, PySem.W.listOf #[.int a t4, .int b t5, .int c t6] c2), (l1, PySem.W.listOf #[.int p t1, .int q t2, .int r t3] c1)] tk nx → Fr h₀ env.locals h (ovr lvars u m₀) → News h₀ env.locals h nx → Q .next { s with heap := h, toks := tk }) :
    wpAny (model prog w) A (pyIter (.ref D)) (fun it s₂ => codeAny (model prog w) A (.forLoop target it body [] env) (fun r s' => match r with | .ok f => Q f s' | .error e => cameBackBy (model prog w) A env E e s') s₂) E s :=
  two_turns lvars _ _ hh hE F N (.head _) b1 b2 done
end
theorem not_lvars {z : PySem.Str} (h : z ∉ lvars) : z ≠ PySem.Str.ofString "parts" ∧ z ≠ PySem.Str.ofString "number" ∧ z ≠ PySem.Str.ofString "row" ∧ z ≠ PySem.Str.ofString "hue" ∧ z ≠ PySem.Str.ofString "share" ∧ z ≠ PySem.Str.ofString "value" ∧ z ≠ PySem.Str.ofString "turned" ∧ z ≠ PySem.Str.ofString "told" := by
  simp only [List.mem_cons, List.not_mem_nil, or_false, not_or] at h
  exact h
theorem t1_end {h₀ : Heap} {L I D lw lc : Addr} {oI oD : Obj} {o2 a2 a1 : Addr × Obj} {m₀ m' : PySem.Str → Option Value} {s₁ : Shared} {h' : Heap} {g : Array GenState} {d : Drawn} {os : OsState} {tk' : Nat} {nw : List (Addr × Obj)} {p q r i j k : Int} {k1 : Addr} {u1 u2 u3 tw : Tok} {c1 c2 : Nat}
    (xF : Fr h₀ L h' m') (xN : News h₀ L h' nw) (xg : g = s₁.gens) (xd : d = s₁.drawn) (xo : os = s₁.os) (xf : RowF p q r i j k) (x1 : (lw, PySem.W.listOf #[.int (waysOf (V (k, j, i)).1 (V (k, j, i)).2.1) tw] c2) ∈ nw) (x2 : (lc, PySem.W.listOf #[.ref k1] c1) ∈ nw) (x3 : (k1, tup3 (W (k, j, i)) u1 u2 u3) ∈ nw)
    (x4 : (D, oD) ∈ nw) (x5 : o2 ∈ nw) (x6 : a2 ∈ nw) (x7 : a1 ∈ nw) (x8 : (I, oI) ∈ nw) (y1 : lw ≠ I) (y2 : lc ≠ I) (y3 : k1 ≠ I) (y4 : D ≠ I) (y5 : o2.1 ≠ I) (y6 : a2.1 ≠ I) (y7 : a1.1 ≠ I) (y8 : @LT.lt Nat _ lw k1) (y9 : @LT.lt Nat _ lc k1) (z1 : @LT.lt Nat _ 0 u1) (z2 : @LT.lt Nat _ 0 u2) (z3 : @LT.lt Nat _ 0 u3) (z4 : @LT.lt Nat _ u1 tk') (z5 : @LT.lt Nat _ u2 tk') (z6 : @LT.lt Nat _ u3 tk')
    (hm : ∀ z, z ∉ lvars → m' z = m₀ z) : TwoEnd h₀ L I D oI oD lvars m₀ (K1 p q r D lw lc [(D, oD), o2, a2, a1]) s₁ .next ⟨h', g, d, tk', os⟩ := by
  subst xg xd xo
  refine TwoEnd.mk xF xN (nx' := (lw, PySem.W.listOf #[.int (waysOf (V (k, j, i)).1 (V (k, j, i)).2.1) tw] c2) :: (lc, PySem.W.listOf #[.ref k1] c1) :: (k1, tup3 (W (k, j, i)) u1 u2 u3) :: [(D, oD), o2, a2, a1]) ⟨i, j, k, k1, u1, u2, u3, tw, c1, c2, xf, rfl, ⟨y8, y9⟩, ⟨z1, z2, z3⟩, z4, z5, z6⟩ ?_ (.tail _ (.tail _ (.tail _ (.head _)))) ?_ hm
  · intro z hz
    simp only [List.mem_cons, List.not_mem_nil, or_false] at hz
    rcases hz with rfl | rfl | rfl | rfl | rfl | rfl | rfl | rfl <;> assumption
  · intro z hz
    simp only [List.mem_cons, List.not_mem_nil, or_false] at hz
    rcases hz with rfl | rfl | rfl | rfl | rfl | rfl | rfl <;> assumption
theorem t2_end {h₀ : Heap} {L I D lw lc : Addr} {oI oD : Obj} {a2 a1 : Addr × Obj} {m₀ m' : PySem.Str → Option Value} {s₁ : Shared} {h' : Heap} {g : Array GenState} {d : Drawn} {os : OsState} {tk' : Nat} {nw : List (Addr × Obj)} {p q r s t v i j k i' j' k' : Int} {k1 k2 : Addr} {u1 u2 u3 v1 v2 v3 tw tw' : Tok} {c1 c2 : Nat}
    (xF : Fr h₀ L h' m') (xN : News h₀ L h' nw) (xg : g = s₁.gens) (xd : d = s₁.drawn) (xo : os = s₁.os) (xf : RowF p q r i j k) (xf' : RowF s t v i' j' k') (x1 : (lw, PySem.W.listOf #[.int (waysOf (V (k, j, i)).1 (V (k, j, i)).2.1) tw, .int (waysOf (V (k', j', i')).1 (V (k', j', i')).2.1) tw'] c2) ∈ nw) (x2 : (lc, PySem.W.listOf #[.ref k1, .ref k2] c1) ∈ nw) (x3 : (k1, tup3 (W (k, j, i)) u1 u2 u3) ∈ nw) (x9 : (k2, tup3 (W (k', j', i')) v1 v2 v3) ∈ nw)
    (x4 : (D, oD) ∈ nw) (x6 : a2 ∈ nw) (x7 : a1 ∈ nw) (x8 : (I, oI) ∈ nw) (y1 : lw ≠ I) (y2 : lc ≠ I) (y3 : k1 ≠ I) (y9 : k2 ≠ I) (y4 : D ≠ I) (y6 : a2.1 ≠ I) (y7 : a1.1 ≠ I) (z1 : @LT.lt Nat _ 0 u1) (z2 : @LT.lt Nat _ 0 u2) (z3 : @LT.lt Nat _ 0 u3) (z4 : @LT.lt Nat _ u1 v1) (z5 : @LT.lt Nat _ u2 v2) (z6 : @LT.lt Nat _ u3 v3)
    (hm : ∀ z, z ∉ lvars → m' z = m₀ z) : TwoEnd h₀ L I D oI oD lvars m₀ (K2 p q r s t v lw lc [(D, oD), a2, a1]) s₁ .next ⟨h', g, d, tk', os⟩ := by
  subst xg xd xo
  refine TwoEnd.mk xF xN (nx' := (lw, PySem.W.listOf #[.int (waysOf (V (k, j, i)).1 (V (k, j, i)).2.1) tw, .int (waysOf (V (k', j', i')).1 (V (k', j', i')).2.1) tw'] c2) :: (lc, PySem.W.listOf #[.ref k1, .ref k2] c1) :: (k2, tup3 (W (k', j', i')) v1 v2 v3) :: (k1, tup3 (W (k, j, i)) u1 u2 u3) :: [(D, oD), a2, a1]) ⟨i, j, k, i', j', k', k1, k2, u1, u2, u3, v1, v2, v3, tw, tw', c1, c2, xf, xf', rfl, ⟨z1, z2, z3⟩, z4, z5, z6⟩ ?_ (.tail _ (.tail _ (.tail _ (.tail _ (.head _))))) ?_ hm
  · intro z hz
    simp only [List.mem_cons, List.not_mem_nil, or_false] at hz
    rcases hz with rfl | rfl | rfl | rfl | rfl | rfl | rfl | rfl <;> assumption
  · intro z hz
    simp only [List.mem_cons, List.not_mem_nil, or_false] at hz
    rcases hz with rfl | rfl | rfl | rfl | rfl | rfl | rfl <;> assumption
theorem fits_yes {p q r a b c i j k i' j' k' : Int} (h : Tri (p, q, r)) (h' : Tri (a, b, c)) (f : RowF p q r i j k) (f' : RowF a b c i' j' k') (e : eq3 (W (k, j, i)) (W (k', j', i')) = true) : fitsOf p q r a b c = waysOf (V (k, j, i)).1 (V (k, j, i)).2.1 := by
  rw [fits_law h h' f f']
  rw [eqW f.tri f.bck f'.tri f'.bck] at e
  rw [if_pos (of_decide_eq_true e)]
theorem fits_no {p q r a b c i j k i' j' k' : Int} (h : Tri (p, q, r)) (h' : Tri (a, b, c)) (f : RowF p q r i j k) (f' : RowF a b c i' j' k') (e : eq3 (W (k, j, i)) (W (k', j', i')) = false) : fitsOf p q r a b c = 0 := by
  rw [fits_law h h' f f']
  rw [eqW f.tri f.bck f'.tri f'.bck] at e
  rw [if_neg (of_decide_eq_false e)]
section
variable {prog : Program} {w : World} {A : Around} {E : Value → Shared → Prop} {s : Shared} {Q : Value → Shared → Prop}
theorem eq_same {a b : Int} {t u : Tok} (e : a = b) (h : Q (.bool true) s) : wpAny (model prog w) A (compareOp .Eq (.int a t) (.int b u)) Q E s := by
  subst e
  exact eq_int (by simpa using h)
end
end Mine
end

/- Law0 -/
noncomputable section
open PySem PySem.W PySem.Spec PySem.Calls PyProof.Rows

namespace Mine
theorem five_mod (n : Int) : n.fmod 5 ∈ five := by
  have h0 : 0 ≤ n.fmod 5 := Int.fmod_nonneg_of_pos n (by decide)
  have h1 : n.fmod 5 < 5 := Int.fmod_lt_of_pos n (by decide)
  generalize n.fmod 5 = k at h0 h1
  have : k = 0 ∨ k = 1 ∨ k = 2 ∨ k = 3 ∨ k = 4 := by omega
  rcases this with rfl | rfl | rfl | rfl | rfl <;> decide
theorem tri_parts (n : Int) : Tri (partsOf n) := by
  have e : partsOf n = partsD (n.fmod 5) ((n.fdiv 5).fmod 5) ((n.fdiv 25).fmod 5) := rfl
  rw [e]
  exact List.mem_flatMap.mpr ⟨_, five_mod _, List.mem_flatMap.mpr ⟨_, five_mod _, List.mem_map.mpr ⟨_, five_mod _, rfl⟩⟩⟩
theorem tri_turn {p q r : Int} (h : Tri (p, q, r)) : Tri (q, r, p) := show _ ∈ tris from of_decide_eq_true (tri_all (P := fun x => decide ((x.2.1, x.2.2, x.1) ∈ tris)) (by decide +kernel) h)
theorem tri_flip {p q r : Int} (h : Tri (p, q, r)) : Tri (r, q, p) := show _ ∈ tris from of_decide_eq_true (tri_all (P := fun x => decide ((x.2.2, x.2.1, x.1) ∈ tris)) (by decide +kernel) h)
noncomputable def triRes (news : List (Addr × Obj)) (v : Value) (nx : List (Addr × Obj)) : Prop := ∃ l p q r t1 t2 t3 c', Tri (p, q, r) ∧ v = .ref l ∧ (∀ p ∈ news, p.1 ≠ l) ∧ nx = (l, PySem.W.listOf #[.int p t1, .int q t2, .int r t3] c') :: news
theorem triRes_of {news : List (Addr × Obj)} {n : Int} {v : Value} {nx : List (Addr × Obj)} (h : listRes news (partsOf n) v nx) : triRes news v nx := by
  obtain ⟨l, t1, t2, t3, c', e1, ne, e2⟩ := h
  exact ⟨l, _, _, _, t1, t2, t3, c', tri_parts n, e1, ne, e2⟩
section
variable {prog : Program} {w : World} {A : Around} {E : Value → Shared → Prop} {s : Shared} {h₀ : Heap} {L : Addr} {m : PySem.Str → Option Value} {env : Env} {Q : Flow → Shared → Prop} {s1 s2 : Stmt} {rest : List Stmt} {l : Addr}
noncomputable def four (h₀ : Heap) (L : Addr) (m : PySem.Str → Option Value) (h' : Heap) : Prop := ∃ l d0 d1 d2 d3 t0 t1 t2 t3 c, Fr h₀ L h' (fun y => if y = PySem.Str.ofString "draws" then some (.ref l) else m y) ∧ News h₀ L h' [(l, PySem.W.listOf #[.int d0 t0, .int d1 t1, .int d2 t2, .int d3 t3] c)]
theorem four_mk {h' : Heap} {m' : PySem.Str → Option Value} {l : Addr} {d0 d1 d2 d3 : Int} {t0 t1 t2 t3 : Tok} {c : Nat} {nw : List (Addr × Obj)} (F : Fr h₀ L h' m') (N : News h₀ L h' ((l, PySem.W.listOf #[.int d0 t0, .int d1 t1, .int d2 t2, .int d3 t3] c) :: nw)) (e : ∀ y, m' y = if y = PySem.Str.ofString "draws" then some (.ref l) else m y) : four h₀ L m h' := by
  refine ⟨l, d0, d1, d2, d3, t0, t1, t2, t3, c, ?_, fun p hp => N p (by
    rcases List.mem_cons.mp hp with e | hp
    · rw [e]; exact .head _
    · cases hp)⟩
  rw [show (fun y => if y = PySem.Str.ofString "draws" then some (.ref l) else m y) = m' from funext fun y => (e y).symm]
  exact F
theorem draws_cut {hp : Heap} {g : Array GenState} {d : Drawn} {tk : Nat} {os : OsState} (h : ∀ (vs : List Value) (ns : List Int) (hp : Heap) (g : Array GenState) (d : Drawn) (tk : Nat) (os : OsState) rest' Q' E, h₀.IsList l vs.toArray → IntsAre vs ns → ¬ ((63 : Nat) : Int) < ((ns.length : Nat) : Int) → Fr h₀ L hp m → News h₀ L hp [] → (∀ h' tk', four h₀ L m h' → wpAny (model prog w) A (execs rest' env) Q' E ⟨h', g, d, tk', os⟩) → wpAny (model prog w) A (execs (s1 :: s2 :: rest') env) Q' E ⟨hp, g, d, tk, os⟩)
    {vs ns} (hl : h₀.IsList l vs.toArray) (hI : IntsAre vs ns) (hz : ¬ ((63 : Nat) : Int) < ((ns.length : Nat) : Int)) (F : Fr h₀ L hp m) (N : News h₀ L hp [])
    (k : ∀ h' tk', four h₀ L m h' → wpAny (model prog w) A (execs rest env) Q E ⟨h', g, d, tk', os⟩) : wpAny (model prog w) A (execs (s1 :: s2 :: rest) env) Q E ⟨hp, g, d, tk, os⟩ := h _ _ _ _ _ _ _ rest Q E hl hI hz F N k
noncomputable def netM (m : PySem.Str → Option Value) (u : Option Value) (l1 l2 l4 : Addr) : PySem.Str → Option Value := fun y => if y = PySem.Str.ofString "other" then some (.ref l2) else if y = PySem.Str.ofString "turn" then u else if y = PySem.Str.ofString "one" then some (.ref l1) else if y = PySem.Str.ofString "draws" then some (.ref l4) else m y
noncomputable def nets (h₀ : Heap) (L : Addr) (m : PySem.Str → Option Value) (q4 : Addr × Obj) (h' : Heap) : Prop := ∃ l1 l2 p q r s t v t1 t2 t3 t4 t5 t6 c1 c2 u, Tri (p, q, r) ∧ Tri (s, t, v) ∧ Fr h₀ L h' (netM m u l1 l2 q4.1) ∧ News h₀ L h' [(l2, PySem.W.listOf #[.int s t4, .int t t5, .int v t6] c2), (l1, PySem.W.listOf #[.int p t1, .int q t2, .int r t3] c1), q4]
noncomputable def rot (k : Nat) (a b c : Value) : List Value := ([a, b, c].drop k).toArray.toList ++ ([a, b, c].take k).toArray.toList
theorem rot_sz {k : Nat} {a b c : Value} : ([a, b, c].drop k).toArray.toList.length + ([a, b, c].take k).toArray.toList.length ≤ sizeLine := by
  show ([a, b, c].drop k).length + ([a, b, c].take k).length ≤ sizeLine
  rw [List.length_drop, List.length_take, sizeLine_eq]
  show 3 - k + min k 3 ≤ _
  omega
theorem rot_size {k : Nat} {a b c : Value} : (rot k a b c).toArray.size ≤ sizeLine := by
  rw [List.size_toArray]; unfold rot; rw [List.length_append]; exact rot_sz
theorem mod3_nat (n : Int) : n.fmod 3 = (((n.fmod 3).toNat : Nat) : Int) := (Int.toNat_of_nonneg (Int.fmod_nonneg_of_pos n (by decide))).symm
theorem mod3_lt (n : Int) : (n.fmod 3).toNat = 0 ∨ (n.fmod 3).toNat = 1 ∨ (n.fmod 3).toNat = 2 := by
  have h0 : 0 ≤ n.fmod 3 := Int.fmod_nonneg_of_pos n (by decide)
  have h1 : n.fmod 3 < 3 := Int.fmod_lt_of_pos n (by decide)
  omega
noncomputable def TriL (vs : List Value) : Prop := ∃ s t v t4 t5 t6, Tri (s, t, v) ∧ vs = [.int s t4, .int t t5, .int v t6]
theorem rot_tri {n p q r : Int} {t1 t2 t3 : Tok} (h : Tri (p, q, r)) : TriL (rot (n.fmod 3).toNat (.int p t1) (.int q t2) (.int r t3)) := by
  rcases mod3_lt n with e | e | e <;> rw [e]
  · exact ⟨_, _, _, _, _, _, h, rfl⟩
  · exact ⟨_, _, _, _, _, _, tri_turn h, rfl⟩
  · exact ⟨_, _, _, _, _, _, tri_turn (tri_turn h), rfl⟩
theorem TriL.rev {vs : List Value} (h : TriL vs) : TriL vs.reverse := by
  obtain ⟨s, t, v, t4, t5, t6, h, rfl⟩ := h
  exact ⟨_, _, _, _, _, _, tri_flip h, rfl⟩
theorem nets_mk {q4 : Addr × Obj} {h' : Heap} {nw : List (Addr × Obj)} {l1 l2 : Addr} {vs : List Value} {c2 c1 : Nat} {p q r : Int} {t1 t2 t3 : Tok} {m' : PySem.Str → Option Value} {u : Option Value} (N : News h₀ L h' nw) (h2 : (l2, PySem.W.listOf vs.toArray c2) ∈ nw) (hv : TriL vs) (h1 : (l1, PySem.W.listOf #[.int p t1, .int q t2, .int r t3] c1) ∈ nw) (ht : Tri (p, q, r)) (h4 : q4 ∈ nw) (F : Fr h₀ L h' m') (em : ∀ y, m' y = netM m u l1 l2 q4.1 y) : nets h₀ L m q4 h' := by
  obtain ⟨s, t, v, t4, t5, t6, h, rfl⟩ := hv
  refine ⟨l1, l2, p, q, r, s, t, v, t1, t2, t3, t4, t5, t6, c1, c2, u, ht, h, ?_, fun z hz => N z (by
    rcases List.mem_cons.mp hz with e | hz
    · rw [e]; exact h2
    · rcases List.mem_cons.mp hz with e | hz
      · rw [e]; exact h1
      · rcases List.mem_cons.mp hz with e | hz
        · rw [e]; exact h4
        · cases hz)⟩
  rw [show netM m u l1 l2 q4.1 = m' from funext fun y => (em y).symm]
  exact F
theorem nets_cut {s3 : Stmt} {hp : Heap} {g : Array GenState} {d : Drawn} {tk : Nat} {os : OsState} {q4 : Addr × Obj} {m' : PySem.Str → Option Value} (_ : Fr h₀ L hp m') (_ : ∀ y, m' y = if y = PySem.Str.ofString "draws" then some (.ref q4.1) else m y) (h : ∀ (tk : Nat) rest' Q' E, (∀ h' tk', nets h₀ L m q4 h' → wpAny (model prog w) A (execs rest' env) Q' E ⟨h', g, d, tk', os⟩) → wpAny (model prog w) A (execs (s1 :: s2 :: s3 :: rest') env) Q' E ⟨hp, g, d, tk, os⟩)
    (k : ∀ h' tk', nets h₀ L m q4 h' → wpAny (model prog w) A (execs rest env) Q E ⟨h', g, d, tk', os⟩) : wpAny (model prog w) A (execs (s1 :: s2 :: s3 :: rest) env) Q E ⟨hp, g, d, tk, os⟩ := h _ rest Q E k
theorem light {a : Addr} {mean : ExcName → Option Value} {mg mb : PySem.Str → Option Value} {ccd : Value} {nm : PySem.Str} {sc : Scope} {body : List Stmt} {x : PySem.Str} {vs : List Value} {ns : List Int} {env : Env}
    (F : Fr h₀ L s.heap (fun y => List.lookup y [(x, Value.ref l)].reverse)) (N : News h₀ L s.heap []) (KX : (head.heap_39 w.params).In h₀) (T : Top head.view_39 LS mean mg mb h₀) (K0 : Below callerA h₀ [] h₀) (hl : h₀.IsList l vs.toArray) (hI : IntsAre vs ns) (hz : ¬ ((63 : Nat) : Int) < ((ns.length : Nat) : Int)) (he : env = envOf nm sc L a ccd)
    (H : ∀ (mean : ExcName → Option Value) (mg mb : PySem.Str → Option Value) (dp un : Nat) (gd : Option (List Code)) (a : Addr) (ccd : Value) (outer : List Env) (A₀ : Around) (base h₀ : Heap) (L : Addr) (hp : Heap) (g : Array GenState) (d : Drawn) (tk : Nat) (os : OsState) (Q : Flow → Shared → Prop) (l : Addr) (vs : List Value) (ns : List Int),
      Below A₀ base outer h₀ → (head.heap_39 w.params).In h₀ → Top head.view_39 LS mean mg mb h₀ → h₀.IsList l vs.toArray → IntsAre vs ns → ¬ ((63 : Nat) : Int) < ((ns.length : Nat) : Int) → Fr h₀ L hp (fun y => List.lookup y [(x, Value.ref l)].reverse) → News h₀ L hp [] → dp + 30 < recursionLimit → un + 480 < cLine →
      (∀ h' m' nw tk', Fr h₀ L h' m' → News h₀ L h' nw → Q (.ret (.bool true)) ⟨h', g, d, tk', os⟩) → wpAny (model PySem.Challenge.rw_sr0019_01.row.prog w) (ktrTop dp un gd nm sc L a ccd [] outer) (execs body (envX nm sc L a ccd [])) Q (fun _ _ => False) ⟨hp, g, d, tk, os⟩)
    (hret : ∀ h' m' nw tk', Fr h₀ L h' m' → News h₀ L h' nw → Q (.ret (.bool true)) { s with heap := h', toks := tk' }) :
    wpAny (model PySem.Challenge.rw_sr0019_01.row.prog w) (callerA.deeper env) (execs body env) Q E s := by
  subst he
  refine wpAny_mono (H mean mg mb (callerA.deeper (envOf nm sc L a ccd)).depth (callerA.deeper (envOf nm sc L a ccd)).units (callerA.deeper (envOf nm sc L a ccd)).guards a ccd [] callerA h₀ h₀ L s.heap s.gens s.drawn s.toks s.os Q l vs ns K0 KX T hl hI hz F N (by ktr_room) (by ktr_units) hret) (fun _ _ x => x) fun _ _ x => x.elim
theorem sl_from {value slice : PySem.Expr} {l : Addr} {news : List (Addr × Obj)} {vs : List Value} {x : Int} {tx : Tok} {k : Nat} {Q : Value → Shared → Prop} (F : Fr h₀ L s.heap m) (N : News h₀ L s.heap news) (hl : s.heap.IsList l vs.toArray) (ex : x = (k : Int))
    (h : ∀ D h', Fr h₀ L h' m → News h₀ L h' ((D, PySem.W.listOf (vs.drop k).toArray 0) :: news) → (∀ p ∈ news, p.1 < D) → Q (.ref D) { s with heap := h' })
    (hs : subscripted slice false (.ref l) (.ref s.heap.objs.size) = operate [.ref s.heap.objs.size, .ref l] (getItem (.ref l) (.ref s.heap.objs.size))) (ht : ∀ r, letTemporaryGo value (.ref l) r = pure ()) (hz : vs.length ≤ sizeLine) :
    wpAny (model prog w) A (subscriptTail value slice (.ref l) (.ref s.heap.objs.size)) Q E { s with heap := s.heap.push { cls := .type "slice", data := .fields #[.int x tx, .none, .none] } } := by
  refine kmk_slice_lit (zs := vs.drop k) F N hl (.int _ _) .none ?_ h hs ht (by rw [List.size_toArray]; exact hz)
  have e : sliceBounds (some x) none none vs.toArray.size = (((min k vs.toArray.size : Nat) : Int), ((vs.toArray.size : Nat) : Int), 1) := by
    simp only [sliceBounds, Option.getD_none, show (1 : Int) > 0 by decide, if_true, if_neg (show ¬ (x < 0) by omega)]
    congr 1
    omega
  rw [kmk_pick_nat _ e]
  show (vs.drop (min k vs.toArray.size)).take (vs.toArray.size - min k vs.toArray.size) = _
  rw [List.size_toArray, kmk_drop_min, List.take_of_length_le (by rw [List.length_drop]; omega)]
theorem sl_upto {value slice : PySem.Expr} {l : Addr} {news : List (Addr × Obj)} {vs : List Value} {x : Int} {tx : Tok} {k : Nat} {Q : Value → Shared → Prop} (F : Fr h₀ L s.heap m) (N : News h₀ L s.heap news) (hl : s.heap.IsList l vs.toArray) (ex : x = (k : Int))
    (h : ∀ D h', Fr h₀ L h' m → News h₀ L h' ((D, PySem.W.listOf (vs.take k).toArray 0) :: news) → (∀ p ∈ news, p.1 < D) → Q (.ref D) { s with heap := h' })
    (hs : subscripted slice false (.ref l) (.ref s.heap.objs.size) = operate [.ref s.heap.objs.size, .ref l] (getItem (.ref l) (.ref s.heap.objs.size))) (ht : ∀ r, letTemporaryGo value (.ref l) r = pure ()) (hz : vs.length ≤ sizeLine) :
    wpAny (model prog w) A (subscriptTail value slice (.ref l) (.ref s.heap.objs.size)) Q E { s with heap := s.heap.push { cls := .type "slice", data := .fields #[.none, .int x tx, .none] } } := by
  refine kmk_slice_lit (zs := vs.take k) F N hl .none (.int _ _) ?_ h hs ht (by rw [List.size_toArray]; exact hz)
  have e : sliceBounds none (some x) none vs.toArray.size = (((0 : Nat) : Int), ((min k vs.toArray.size : Nat) : Int), 1) := by
    simp only [sliceBounds, Option.getD_none, show (1 : Int) > 0 by decide, if_true, if_neg (show ¬ (x < 0) by omega)]
    congr 1
    congr 1
    omega
  rw [kmk_pick_nat _ e]
  show (vs.drop 0).take (min k vs.toArray.size - 0) = _
  rw [List.drop_zero, Nat.sub_zero, List.size_toArray, kmk_take_min]
end
local macro_rules | `(tactic| walk_at $s:str) => `(tactic| k_extra $s)
local macro_rules | `(tactic| k_ne) => `(tactic| walk_at "mine ne")
local macro_rules | `(tactic| ktr_room) => `(tactic| walk_at "mine room")
local macro_rules | `(tactic| ktr_units) => `(tactic| walk_at "mine units")
theorem lst_len {vs : List Value} {ns : List Int} (h : IntsAre vs ns) (h2 : ¬ ((63 : Nat) : Int) < ((ns.length : Nat) : Int)) : vs.length ≤ sizeLine := by
  rw [h.length, sizeLine_eq]; omega
theorem t0 : PySem.Challenge.rw_sr0019_01.Holds := head (by
  w_top off
  k_with_none
  k_with "mine ne" => (refine neN ?_; (try dsimp only); first | exact Nat.ne_of_gt (by with_reducible assumption) | exact Nat.ne_of_lt (by with_reducible assumption) | exact Nat.ne_of_gt (And.left (by with_reducible assumption)) | exact Nat.ne_of_lt (And.left (by with_reducible assumption)) | exact Nat.ne_of_gt (And.right (by with_reducible assumption)) | exact Nat.ne_of_lt (And.right (by with_reducible assumption)) | exact Nat.ne_of_gt (And.left (And.right (by with_reducible assumption))) | exact Nat.ne_of_lt (And.left (And.right (by with_reducible assumption))) | exact Nat.ne_of_gt (And.right (And.right (by with_reducible assumption))) | exact Nat.ne_of_lt (And.right (And.right (by with_reducible assumption))) | exact Nat.ne_of_gt (And.left (And.right (And.right (by with_reducible assumption)))) | exact Nat.ne_of_lt (And.left (And.right (And.right (by with_reducible assumption)))) | exact Nat.ne_of_gt (And.right (And.right (And.right (by with_reducible assumption)))) | exact Nat.ne_of_lt (And.right (And.right (And.right (by with_reducible assumption)))) | exact Nat.ne_of_gt (And.left (And.right (And.right (And.right (by with_reducible assumption))))) | exact Nat.ne_of_lt (And.left (And.right (And.right (And.right (by with_reducible assumption))))) | exact Nat.ne_of_gt (And.right (And.right (And.right (And.right (by with_reducible assumption))))) | exact Nat.ne_of_lt (And.right (And.right (And.right (And.right (by with_reducible assumption))))) | exact Nat.ne_of_gt (And.left (And.right (And.right (And.right (And.right (by with_reducible assumption)))))) | exact Nat.ne_of_lt (And.left (And.right (And.right (And.right (And.right (by with_reducible assumption)))))) | exact Nat.ne_of_gt (And.right (And.right (And.right (And.right (And.right (by with_reducible assumption)))))) | exact Nat.ne_of_lt (And.right (And.right (And.right (And.right (And.right (by with_reducible assumption)))))) | exact Nat.ne_of_gt (And.left (And.right (And.right (And.right (And.right (And.right (by with_reducible assumption))))))) | exact Nat.ne_of_lt (And.left (And.right (And.right (And.right (And.right (And.right (by with_reducible assumption))))))) | exact Nat.ne_of_gt (And.right (And.right (And.right (And.right (And.right (And.right (by with_reducible assumption))))))) | exact Nat.ne_of_lt (And.right (And.right (And.right (And.right (And.right (And.right (by with_reducible assumption))))))) | exact Nat.ne_of_gt (And.left (And.right (And.right (And.right (And.right (And.right (And.right (by with_reducible assumption)))))))) | exact Nat.ne_of_lt (And.left (And.right (And.right (And.right (And.right (And.right (And.right (by with_reducible assumption)))))))) | exact Nat.ne_of_gt (And.right (And.right (And.right (And.right (And.right (And.right (And.right (by with_reducible assumption)))))))) | exact Nat.ne_of_lt (And.right (And.right (And.right (And.right (And.right (And.right (And.right (by with_reducible assumption)))))))) | exact Nat.ne_of_gt (And.left (And.right (And.right (And.right (And.right (And.right (And.right (And.right (by with_reducible assumption))))))))) | exact Nat.ne_of_lt (And.left (And.right (And.right (And.right (And.right (And.right (And.right (And.right (by with_reducible assumption))))))))) | exact Nat.ne_of_gt (And.right (And.right (And.right (And.right (And.right (And.right (And.right (And.right (by with_reducible assumption))))))))) | exact Nat.ne_of_lt (And.right (And.right (And.right (And.right (And.right (And.right (And.right (And.right (by with_reducible assumption))))))))) | exact Nat.ne_of_gt (And.left (And.right (And.right (And.right (And.right (And.right (And.right (And.right (And.right (by with_reducible assumption)))))))))) | exact Nat.ne_of_lt (And.left (And.right (And.right (And.right (And.right (And.right (And.right (And.right (And.right (by with_reducible assumption)))))))))) | exact Nat.ne_of_gt (And.right (And.right (And.right (And.right (And.right (And.right (And.right (And.right (And.right (by with_reducible assumption)))))))))) | exact Nat.ne_of_lt (And.right (And.right (And.right (And.right (And.right (And.right (And.right (And.right (And.right (by with_reducible assumption)))))))))) | exact Nat.ne_of_gt (And.left (And.right (And.right (And.right (And.right (And.right (And.right (And.right (And.right (And.right (by with_reducible assumption))))))))))) | exact Nat.ne_of_lt (And.left (And.right (And.right (And.right (And.right (And.right (And.right (And.right (And.right (And.right (by with_reducible assumption))))))))))) | exact Nat.ne_of_gt (And.right (And.right (And.right (And.right (And.right (And.right (And.right (And.right (And.right (And.right (by with_reducible assumption))))))))))) | exact Nat.ne_of_lt (And.right (And.right (And.right (And.right (And.right (And.right (And.right (And.right (And.right (And.right (by with_reducible assumption))))))))))) | exact Nat.ne_of_gt (And.left (And.right (And.right (And.right (And.right (And.right (And.right (And.right (And.right (And.right (And.right (by with_reducible assumption)))))))))))) | exact Nat.ne_of_lt (And.left (And.right (And.right (And.right (And.right (And.right (And.right (And.right (And.right (And.right (And.right (by with_reducible assumption)))))))))))) | exact Nat.ne_of_gt (And.right (And.right (And.right (And.right (And.right (And.right (And.right (And.right (And.right (And.right (And.right (by with_reducible assumption)))))))))))) | exact Nat.ne_of_lt (And.right (And.right (And.right (And.right (And.right (And.right (And.right (And.right (And.right (And.right (And.right (by with_reducible assumption)))))))))))) | exact Nat.ne_of_gt (And.left (And.right (And.right (And.right (And.right (And.right (And.right (And.right (And.right (And.right (And.right (And.right (by with_reducible assumption))))))))))))) | exact Nat.ne_of_lt (And.left (And.right (And.right (And.right (And.right (And.right (And.right (And.right (And.right (And.right (And.right (And.right (by with_reducible assumption))))))))))))) | exact Nat.ne_of_gt (And.right (And.right (And.right (And.right (And.right (And.right (And.right (And.right (And.right (And.right (And.right (And.right (by with_reducible assumption))))))))))))) | exact Nat.ne_of_lt (And.right (And.right (And.right (And.right (And.right (And.right (And.right (And.right (And.right (And.right (And.right (And.right (by with_reducible assumption))))))))))))) | exact Nat.ne_of_gt (And.left (And.right (And.right (And.right (And.right (And.right (And.right (And.right (And.right (And.right (And.right (And.right (And.right (by with_reducible assumption)))))))))))))) | exact Nat.ne_of_lt (And.left (And.right (And.right (And.right (And.right (And.right (And.right (And.right (And.right (And.right (And.right (And.right (And.right (by with_reducible assumption)))))))))))))) | exact Nat.ne_of_gt (And.right (And.right (And.right (And.right (And.right (And.right (And.right (And.right (And.right (And.right (And.right (And.right (And.right (by with_reducible assumption)))))))))))))) | exact Nat.ne_of_lt (And.right (And.right (And.right (And.right (And.right (And.right (And.right (And.right (And.right (And.right (And.right (And.right (And.right (by with_reducible assumption)))))))))))))) | exact Nat.ne_of_gt (And.left (And.right (And.right (And.right (And.right (And.right (And.right (And.right (And.right (And.right (And.right (And.right (And.right (And.right (by with_reducible assumption))))))))))))))) | exact Nat.ne_of_lt (And.left (And.right (And.right (And.right (And.right (And.right (And.right (And.right (And.right (And.right (And.right (And.right (And.right (And.right (by with_reducible assumption))))))))))))))) | exact Nat.ne_of_gt (And.right (And.right (And.right (And.right (And.right (And.right (And.right (And.right (And.right (And.right (And.right (And.right (And.right (And.right (by with_reducible assumption))))))))))))))) | exact Nat.ne_of_lt (And.right (And.right (And.right (And.right (And.right (And.right (And.right (And.right (And.right (And.right (And.right (And.right (And.right (And.right (by with_reducible assumption))))))))))))))) | exact Nat.ne_of_gt (And.left (And.right (And.right (And.right (And.right (And.right (And.right (And.right (And.right (And.right (And.right (And.right (And.right (And.right (And.right (by with_reducible assumption)))))))))))))))) | exact Nat.ne_of_lt (And.left (And.right (And.right (And.right (And.right (And.right (And.right (And.right (And.right (And.right (And.right (And.right (And.right (And.right (And.right (by with_reducible assumption)))))))))))))))))
  k_with "mine room" => exact Nat.lt_of_le_of_lt (Nat.add_le_add_left (by decide) dp) hd
  k_with "mine units" => first | exact Nat.lt_of_le_of_lt (Nat.add_le_add_left (by decide) un) hu | exact Nat.lt_of_le_of_lt (Nat.le_add_right un _) hu
  k_with "subscriptTail" => (k_here; (with_reducible show wpAny _ _ (subscriptTail (PySem.Expr.List _ _) (PySem.Expr.Slice (some _) none none _) (Value.ref _) (Value.ref _)) _ _ _); (refine kba_turn (value' := PySem.Expr.Name (PySem.Str.ofString "_") ⟨0, 0, 0, 0⟩) (fun _ => rfl) ?_); k_dflt (refine' sl_from ?wF ?wN ?wl ?wx ?_ ?ws ?wt ?wz; (case wF => k_asm); (case wN => k_asm); (case wl => exact News.isList (by k_asm) (by k_mem)); (case wx => exact rfl); (case ws => exact rfl); (case wt => (intro _; exact rfl)); (case wz => exact Nat.le_of_ble_eq_true rfl)); intro D' h' F' N' l1; (try simp only [List.length_nil, List.length_cons, List.drop_succ_cons, List.drop_zero, List.drop_nil] at N'); (try k_lt l1); (try k_sweep))
  k_with "subscriptTail Name Slice ref ref" => (k_here; (with_reducible show wpAny _ _ (subscriptTail _ (PySem.Expr.Slice none (some _) none _) (Value.ref _) (Value.ref _)) _ _ _); k_dflt (refine' sl_upto (k := 4) ?wF ?wN ?wl ?wx ?_ ?ws ?wt ?wz; (case wF => k_asm); (case wN => k_asm); (case wl => kmk_list); (case wx => exact rfl); (case ws => exact rfl); (case wt => (intro _; exact rfl)); (case wz => first | exact Nat.le_of_ble_eq_true rfl | exact lst_len (by assumption) (by assumption))); intro D' h' F' N' l1; (try simp only [List.take_succ_cons, List.take_zero, List.take_nil] at N'); (try k_lt l1); (try k_sweep))
  k_with "CompSrc" => (k_here; k_dflt (refine LCg.CompSrc.ledger (by rfl) (by k_asm) (by k_asm) (by k_mem) (by exact Nat.le_of_ble_eq_true rfl) ?_; intro g'; lcg_lit))
  k_with "subscriptTail Name Slice ref ref" => (k_here; (with_reducible show wpAny _ _ (subscriptTail _ (PySem.Expr.Slice none (some (PySem.Expr.Name _ _)) none _) (Value.ref _) (Value.ref _)) _ _ _); k_dflt (refine' sl_upto ?wF ?wN ?wl (mod3_nat _) ?_ ?ws ?wt ?wz; (case wF => k_asm); (case wN => k_asm); (case wl => exact News.isList (by k_asm) (by k_mem)); (case ws => exact rfl); (case wt => (intro _; exact rfl)); (case wz => exact Nat.le_of_ble_eq_true rfl)); intro D' h' F' N' l1; (try k_lt l1); (try k_sweep))
  k_with "subscriptTail Name Slice ref ref" => (k_here; (with_reducible show wpAny _ _ (subscriptTail _ (PySem.Expr.Slice (some (PySem.Expr.Name _ _)) none none _) (Value.ref _) (Value.ref _)) _ _ _); k_dflt (refine' sl_from ?wF ?wN ?wl (mod3_nat _) ?_ ?ws ?wt ?wz; (case wF => k_asm); (case wN => k_asm); (case wl => exact News.isList (by k_asm) (by k_mem)); (case ws => exact rfl); (case wt => (intro _; exact rfl)); (case wz => exact Nat.le_of_ble_eq_true rfl)); intro D' h' F' N' l1; (try k_lt l1); (try k_sweep))
  k_with "subscriptTail Name Slice ref ref" => (k_here; (with_reducible show wpAny _ _ (subscriptTail _ (PySem.Expr.Slice none none (some _) _) (Value.ref _) (Value.ref _)) _ _ _); k_dflt (refine' krv_lit (its := (rot _ _ _ _).toArray) (zs := (rot _ _ _ _).reverse) ?wF ?wN ?wl ?wk ?we ?_ ?ws ?wt ?wz; (case wF => k_asm); (case wN => k_asm); (case wl => exact News.isList (by k_asm) (by k_mem)); (case wk => exact IsPart.int _ _); (case we => exact rfl); (case ws => exact rfl); (case wt => (intro _; exact rfl)); (case wz => exact rot_size)); intro D' h' F' N' l1; (try k_lt l1); (try k_sweep))
  k_with "binaryOp Add ref ref" => (k_here; (with_reducible show wpAny _ _ (binaryOp _ (Value.ref _) (Value.ref _)) _ _ _); k_dflt (refine' kmk_add_lit (zs := rot _ _ _ _) ?wF ?wN ?wa ?wb ?we ?_ ?wz; (case wF => k_asm); (case wN => k_asm); (case wa => exact News.isList (by k_asm) (by k_mem)); (case wb => exact News.isList (by k_asm) (by k_mem)); (case we => exact rfl); (case wz => exact rot_sz)); intro D' h' F' N' l1; (try k_lt l1); (try k_sweep))
  k_with "binaryOp Add ref ref" => (k_here; (with_reducible show wpAny _ _ (binaryOp _ (Value.ref _) (Value.ref _)) _ _ _); k_dflt (refine' kmk_add_lit ?wF ?wN ?wa ?wb ?we ?_ ?wz; (case wF => k_asm); (case wN => k_asm); (case wa => exact News.isList (by k_asm) (by k_mem)); (case wb => exact News.isList (by k_asm) (by k_mem)); (case we => exact rfl); (case wz => exact Nat.le_of_ble_eq_true rfl)); intro D' h' F' N' l1; (try simp only [List.cons_append, List.nil_append] at N'); (try k_lt l1); (try k_sweep))
  k_with "execs" => (k_here; (with_reducible show wpAny _ _ (execs rest' _) _ _ _); refine Hold.mk ?_)
  k_with "call ref" => (k_here; (with_reducible show wpAny _ _ (call (Value.ref 87) _) _ _ _); k_dflt (refine' Spec.use (parts_spec _ _ _ _ _ _ _) ?wk1 ?wk2 ?wk3 ?wk4 ?wk5 ?wkK ?wkd ?wku ?_; (case wk1 => k_asm); (case wk2 => k_asm); (case wk3 => k_asm); (case wk4 => k_asm); (case wk5 => k_asm); (case wkK => first | exact rfl | assumption); (case wkd => ktr_room); (case wku => ktr_units)); intro r' nx' h' tk' F' N' ho'; obtain ⟨l', p', q', r', t1', t2', t3', c', tr', e1', ne', e2'⟩ := triRes_of ho'; subst e1' e2'; (try dsimp only))
  k_with "call ref" => (k_here; (with_reducible show wpAny _ _ (call (Value.ref 43) _) _ _ _); k_dflt (refine tk_le ?_; refine' Spec.use (int2ap_spec _ _ _ _ _ _ _ ?whb) ?wk1 ?wk2 ?wk3 ?wk4 ?wk5 ?wkK ?wkd ?wku ?_; (case wk1 => k_asm); (case wk2 => k_asm); (case wk3 => k_asm); (case wk4 => k_asm); (case wk5 => k_asm); (case wkK => first | exact rfl | assumption); (case wkd => ktr_room); (case wku => ktr_units); (case whb => exact word_bd)); intro r' nx' h' tk' F' N' ho' hl'; (try dsimp only at hl'); obtain ⟨b', t', e1', ok', e2'⟩ := wordRes_of ho'; clear ho'; subst e1' e2'; (try dsimp only))
  k_with "call ref" => (k_here; (with_reducible show wpAny _ _ (call (Value.ref 94) _) _ _ _); k_dflt (refine tk_le ?_; refine' Spec.use (sent_spec _ _ _ _ _ _ _ _ _ _ _ _ _ ?whm ?whp ?whq ?whr _ _ ?whb) ?wk1 ?wk2 ?wk3 ?wk4 ?wk5 ?wkK ?wkd ?wku ?_; (case wk1 => k_asm); (case wk2 => k_asm); (case wk3 => k_asm); (case wk4 => k_asm); (case wk5 => k_asm); (case wkK => first | exact rfl | assumption); (case wkd => ktr_room); (case wku => ktr_units); (case whm => k_mem); (case whp => exact (tri_bd (by with_reducible assumption)).1); (case whq => exact (tri_bd (by with_reducible assumption)).2.1); (case whr => exact (tri_bd (by with_reducible assumption)).2.2.1); (case whb => with_reducible assumption)); intro r' nx' h' tk' F' N' ho' hl'; (try dsimp only at hl'); obtain ⟨x', t', e1', e2', f1', f2', f3', f4', f5', f6'⟩ := sentRes_of (by with_reducible assumption) (by with_reducible assumption) ho'; clear ho'; subst e1' e2'; (try dsimp only))
  k_with "call ref" => (k_here; (with_reducible show wpAny _ _ (call (Value.ref 106) _) _ _ _); k_dflt (refine tk_le ?_; refine' Spec.use (red_spec _ _ _ _ _ _ _ ?wh1 ?wh2 ?wh3 ?wn1 ?wn3) ?wk1 ?wk2 ?wk3 ?wk4 ?wk5 ?wkK ?wkd ?wku ?_; (case wk1 => k_asm); (case wk2 => k_asm); (case wk3 => k_asm); (case wk4 => k_asm); (case wk5 => k_asm); (case wkK => first | exact rfl | assumption); (case wkd => ktr_room); (case wku => ktr_units); (case wh1 => with_reducible assumption); (case wh2 => with_reducible assumption); (case wh3 => with_reducible assumption); (case wn1 => with_reducible assumption); (case wn3 => with_reducible assumption)); intro r' nx' h' tk' F' N' ho' hl'; (try dsimp only at hl'); (rename redOut _ = s3 _ _ _ => e9'); obtain ⟨l', i', j', k', t1', t2', t3', c', rf', e1', lt', e2'⟩ := rowRes_of (by with_reducible assumption) e9' ho'; clear ho'; obtain ⟨sm1', sm2', sm3'⟩ := tri_small rf'.tri; have tri' := rf'.tri; have bck' := rf'.bck; subst e1' e2'; (try k_lt lt'); (try dsimp only))
  k_with "call ref" => (k_here; (with_reducible show wpAny _ _ (call (Value.ref 82) _) _ _ _); k_dflt (refine tk_le ?_; refine' SpecT.use (hsv_spec _ _ _ _ _ _ _ _ _ _ _ ?wht ?whu ?whx (hzV ?wtr)) ?wk1 ?wk2 ?wk3 ?wk4 ?wk5 ?wkK ?wkd ?wku ?wkp ?_; (case wk1 => k_asm); (case wk2 => k_asm); (case wk3 => k_asm); (case wk4 => k_asm); (case wk5 => k_asm); (case wkK => first | exact rfl | assumption); (case wkd => ktr_room); (case wku => ktr_units); (case wkp => ((try dsimp only); first | exact Nat.succ_pos _ | exact Nat.lt_of_lt_of_le (Nat.succ_pos _) (by with_reducible assumption) | exact Nat.lt_of_lt_of_le (Nat.succ_pos _) (And.left (by with_reducible assumption)) | omega)); (case wtr => with_reducible assumption); (case wht => ((try dsimp only); first | exact Nat.succ_pos _ | exact Nat.lt_of_lt_of_le (Nat.succ_pos _) (by with_reducible assumption) | exact Nat.lt_of_lt_of_le (Nat.succ_pos _) (And.left (by with_reducible assumption)) | omega)); (case whu => ((try dsimp only); first | exact Nat.succ_pos _ | exact Nat.lt_of_lt_of_le (Nat.succ_pos _) (by with_reducible assumption) | exact Nat.lt_of_lt_of_le (Nat.succ_pos _) (And.left (by with_reducible assumption)) | omega)); (case whx => ((try dsimp only); first | exact Nat.succ_pos _ | exact Nat.lt_of_lt_of_le (Nat.succ_pos _) (by with_reducible assumption) | exact Nat.lt_of_lt_of_le (Nat.succ_pos _) (And.left (by with_reducible assumption)) | omega))); intro r' nx' h' tk' F' N' ho' hl'; (try dsimp only at hl'); obtain ⟨l', t1', t2', t3', e1', lt', e2', p1', p2', p3'⟩ := hsvRes_of (by with_reducible assumption) ho'; clear ho'; subst e1' e2'; (try k_lt lt'); (try dsimp only))
  k_with "call ref" => (k_here; (with_reducible show wpAny _ _ (call (Value.ref 75) _) _ _ _); k_dflt (refine tk_le ?_; refine' SpecT.use (hls_spec _ _ _ _ _ _ _ _ _ _ _ ?wht ?whu ?whx (hzL ?wtr ?wbk)) ?wk1 ?wk2 ?wk3 ?wk4 ?wk5 ?wkK ?wkd ?wku ?wkp ?_; (case wk1 => k_asm); (case wk2 => k_asm); (case wk3 => k_asm); (case wk4 => k_asm); (case wk5 => k_asm); (case wkK => first | exact rfl | assumption); (case wkd => ktr_room); (case wku => ktr_units); (case wkp => ((try dsimp only); first | exact Nat.succ_pos _ | exact Nat.lt_of_lt_of_le (Nat.succ_pos _) (by with_reducible assumption) | exact Nat.lt_of_lt_of_le (Nat.succ_pos _) (And.left (by with_reducible assumption)) | omega)); (case wtr => with_reducible assumption); (case wbk => with_reducible assumption); (case wht => ((try dsimp only); first | exact Nat.succ_pos _ | exact Nat.lt_of_lt_of_le (Nat.succ_pos _) (by with_reducible assumption) | exact Nat.lt_of_lt_of_le (Nat.succ_pos _) (And.left (by with_reducible assumption)) | omega)); (case whu => ((try dsimp only); first | exact Nat.succ_pos _ | exact Nat.lt_of_lt_of_le (Nat.succ_pos _) (by with_reducible assumption) | exact Nat.lt_of_lt_of_le (Nat.succ_pos _) (And.left (by with_reducible assumption)) | omega)); (case whx => ((try dsimp only); first | exact Nat.succ_pos _ | exact Nat.lt_of_lt_of_le (Nat.succ_pos _) (by with_reducible assumption) | exact Nat.lt_of_lt_of_le (Nat.succ_pos _) (And.left (by with_reducible assumption)) | omega))); intro r' nx' h' tk' F' N' ho' hl'; (try dsimp only at hl'); obtain ⟨l', t1', t2', t3', e1', lt', e2', p1', p2', p3'⟩ := hlsRes_of (by with_reducible assumption) (by with_reducible assumption) ho'; clear ho'; (try dsimp only at p1' p2' p3'); subst e1' e2'; (try k_lt lt'); (try dsimp only))
  k_with "call ref" => (k_here; (with_reducible show wpAny _ _ (call (Value.ref 118) _) _ _ _); k_dflt (refine tk_le ?_; refine' Spec.use (ways_spec _ _ _ _ _ _ _ _ _ ?whn ?whi) ?wk1 ?wk2 ?wk3 ?wk4 ?wk5 ?wkK ?wkd ?wku ?_; (case wk1 => k_asm); (case wk2 => k_asm); (case wk3 => k_asm); (case wk4 => k_asm); (case wk5 => k_asm); (case wkK => first | exact rfl | assumption); (case wkd => ktr_room); (case wku => ktr_units); (case whn => exact (n72 (by with_reducible assumption)).1); (case whi => exact (n72 (by with_reducible assumption)).2)); intro r' nx' h' tk' F' N' ho' hl'; (try dsimp only at hl'); obtain ⟨t', e1', e2'⟩ := ho'; subst e1' e2'; (try dsimp only))
  k_with "call builtin:sorted" => (k_here; (with_reducible show wpAny _ _ (call (Value.builtin _) [Value.ref _]) _ _ _); k_dflt (refine' kso_sorted (vs := [_, _, _]) (ns := [_, _, _]) ?wF ?wN ?wl ?wi ?wn ?_; (case wF => k_asm); (case wN => k_asm); (case wl => exact News.isList (by k_asm) (by k_mem)); (case wi => exact .cons _ _ (.cons _ _ (.cons _ _ .nil))); (case wn => decide)); intro D' vs' ns' c' h' F' N' l1 i' e' p' o' b'; clear e' b'; (try k_lt l1))
  k_with "compareOp NotEq ref ref" => (k_here; (with_reducible show wpAny _ _ (compareOp CmpOp.NotEq (Value.ref _) (Value.ref _)) _ _ _); k_dflt (refine' ne_sorted ?wa ?wb ?wj ?wf ?wp ?ws ?wu ?_; (case wa => exact News.isList (by k_asm) (by k_mem)); (case wb => exact News.isList (by k_asm) (by k_mem)); (case wj => with_reducible assumption); (case wf => with_reducible assumption); (case wp => with_reducible assumption); (case ws => with_reducible assumption); (case wu => ke_room)))
  k_with "compareOp NotEq ref ref" => (k_here; (with_reducible show wpAny _ _ (compareOp CmpOp.NotEq (Value.ref _) (Value.ref _)) _ _ _); k_dflt (refine' ne_tup2 ?wN ?wa ?wb ?wbk ?wp1 ?wp2 ?wp3 ?wp4 ?wex ?wey ?wca ?wcb ?whA ?_; (case wN => k_asm); (case wa => k_mem); (case wb => k_mem); (case wbk => exact booked (by with_reducible assumption) (by with_reducible assumption)); (case wp1 => ((try dsimp only); first | exact Nat.succ_pos _ | exact Nat.lt_of_lt_of_le (Nat.succ_pos _) (by with_reducible assumption) | exact Nat.lt_of_lt_of_le (Nat.succ_pos _) (And.left (by with_reducible assumption)) | omega)); (case wp2 => ((try dsimp only); first | exact Nat.succ_pos _ | exact Nat.lt_of_lt_of_le (Nat.succ_pos _) (by with_reducible assumption) | exact Nat.lt_of_lt_of_le (Nat.succ_pos _) (And.left (by with_reducible assumption)) | omega)); (case wp3 => ((try dsimp only); first | exact Nat.succ_pos _ | exact Nat.lt_of_lt_of_le (Nat.succ_pos _) (by with_reducible assumption) | exact Nat.lt_of_lt_of_le (Nat.succ_pos _) (And.left (by with_reducible assumption)) | omega)); (case wp4 => ((try dsimp only); first | exact Nat.succ_pos _ | exact Nat.lt_of_lt_of_le (Nat.succ_pos _) (by with_reducible assumption) | exact Nat.lt_of_lt_of_le (Nat.succ_pos _) (And.left (by with_reducible assumption)) | omega)); (case wex => exact RowF.sh (by with_reducible assumption)); (case wey => exact RowF.va (by with_reducible assumption)); (case wca => exact (selfV (by with_reducible assumption)).1); (case wcb => exact (selfV (by with_reducible assumption)).2); (case whA => ktr_units)))
  k_with "compareOp NotEq int int" => (k_here; refine' ne_same ?we ?_; (case we => exact hue_min (by with_reducible assumption)))
  k_with "call builtin:min" => (k_here; (with_reducible show wpAny _ _ (call (Value.builtin _) [Value.int _ _, Value.int _ _]) _ _ _); k_dflt (refine tk_le ?_; refine' min_two_N (by rfl) ?wF ?wN ?_; (case wF => k_asm); (case wN => k_asm)); intro h' tk' F' N' hl'; (try dsimp only at hl'); (try k_sweep))
  k_with "call ref" => (k_here; (with_reducible show wpAny _ _ (call (Value.ref 111) _) _ _ _); k_dflt (refine' Spec.use (fits_spec _ _ _ _ _ _ _ _ _ _ _ _ _ _ _ _ _ _ _ _ _ ?wh1 ?wh2) ?wk1 ?wk2 ?wk3 ?wk4 ?wk5 ?wkK ?wkd ?wku ?_; (case wk1 => k_asm); (case wk2 => k_asm); (case wk3 => k_asm); (case wk4 => k_asm); (case wk5 => k_asm); (case wkK => first | exact rfl | assumption); (case wkd => ktr_room); (case wku => ktr_units); (case wh1 => k_mem); (case wh2 => k_mem)); intro r' nx' h' tk' F' N' ho'; obtain ⟨t', e1', e2'⟩ := ho'; subst e1' e2'; (try dsimp only))
  k_with "compareOp Eq ref ref" => (k_here; (with_reducible show wpAny _ _ (compareOp CmpOp.Eq (Value.ref _) (Value.ref _)) _ _ _); k_dflt (refine' eq_tup3 ?wN ?wa ?wb ?wbk ?wp1 ?wp2 ?wp3 ?wq1 ?wq2 ?wq3 ?wc1 ?wc2 ?wc3 ?whA ?_; (case wN => k_asm); (case wa => k_mem); (case wb => k_mem); (case wbk => exact booked (by with_reducible assumption) (by with_reducible assumption)); (case wp1 => assumption); (case wp2 => assumption); (case wp3 => assumption); (case wq1 => assumption); (case wq2 => assumption); (case wq3 => assumption); (case wc1 => exact (selfW (RowF.tri (by with_reducible assumption)) (RowF.bck (by with_reducible assumption))).1); (case wc2 => exact (selfW (RowF.tri (by with_reducible assumption)) (RowF.bck (by with_reducible assumption))).2.1); (case wc3 => exact (selfW (RowF.tri (by with_reducible assumption)) (RowF.bck (by with_reducible assumption))).2.2); (case whA => ktr_units)))
  k_with "compareOp Eq int int" => (k_here; refine' eq_same ?we ?_; (case we => first | exact fits_yes (by with_reducible assumption) (by with_reducible assumption) (by with_reducible assumption) (by with_reducible assumption) (by with_reducible assumption) | exact fits_no (by with_reducible assumption) (by with_reducible assumption) (by with_reducible assumption) (by with_reducible assumption) (by with_reducible assumption)))
  k_with "subscriptTail Name Constant ref int" => (k_here; (with_reducible show wpAny _ _ (subscriptTail _ _ (Value.ref _) (Value.int 0 _)) _ _ _); k_dflt (refine' it0 ?wl ?_ ?ws; (case wl => exact News.isList (by k_asm) (by k_mem)); (case ws => exact rfl)))
  k_with "subscriptTail Name Constant ref int" => (k_here; (with_reducible show wpAny _ _ (subscriptTail _ _ (Value.ref _) (Value.int 1 _)) _ _ _); k_dflt (refine' it1 ?wl ?_ ?ws; (case wl => exact News.isList (by k_asm) (by k_mem)); (case ws => exact rfl)))
  k_with "subscriptTail Name Constant ref int" => (k_here; (with_reducible show wpAny _ _ (subscriptTail _ _ (Value.ref _) (Value.int 2 _)) _ _ _); k_dflt (refine' it2 ?wl ?_ ?ws; (case wl => exact News.isList (by k_asm) (by k_mem)); (case ws => exact rfl)))
  k_with "subscriptTail Name Constant ref int" => (k_here; (with_reducible show wpAny _ _ (subscriptTail _ _ (Value.ref _) (Value.int 3 _)) _ _ _); k_dflt (refine' it3 ?wl ?_ ?ws; (case wl => exact News.isList (by k_asm) (by k_mem)); (case ws => exact rfl)))
  k_with "subscriptTail Name Constant ref int" => (k_here; (with_reducible show wpAny _ _ (subscriptTail _ _ (Value.ref _) (Value.int 0 _)) _ _ _); k_dflt (refine' tt0 ?wl ?_ ?ws; (case wl => exact News.isTup (by k_asm) (by k_mem)); (case ws => exact rfl)))
  k_with "subscriptTail Name Constant ref int" => (k_here; (with_reducible show wpAny _ _ (subscriptTail _ _ (Value.ref _) (Value.int 1 _)) _ _ _); k_dflt (refine' tt1 ?wl ?_ ?ws; (case wl => exact News.isTup (by k_asm) (by k_mem)); (case ws => exact rfl)))
  k_with "binaryOp Div int int" => (k_here; refine' div8 (by rfl) ?wb ?_; (case wb => with_reducible assumption))
  k_with "call builtin:round" => (k_here; refine' round72 (by rfl) ?wb ?_; (case wb => with_reducible assumption))
  k_with "subscriptTail Name Slice ref ref" => (k_here; (with_reducible show wpAny _ _ (subscriptTail _ (PySem.Expr.Slice (some (PySem.Expr.Constant _ _ _)) none none _) (Value.ref _) (Value.ref _)) _ _ _); k_dflt (refine' told_tail ?wF ?wN ?wl ?_ ?ws ?wt; (case wF => k_asm); (case wN => k_asm); (case wl => k_mem); (case ws => exact rfl); (case wt => (intro _; exact rfl))); intro D' h' F' N' l1; (try k_lt l1); (try k_sweep))
  k_with "exec For Tuple Tuple cons nil" => (k_here; refine wpAny_For ?_ (fun _ => rfl))
  k_with "pyIter ref" => (k_here; (with_reducible show wpAny _ _ (pyIter (Value.ref _)) (fun it s₂ => codeAny _ _ _ _ _) _ _); refine Hold.mk ?_)
  k_with "execs cons" => (k_here; (with_reducible refine gen_le ?_); intro tk' hl'; (try dsimp only at hl'); (with_reducible refine wpAny_execs_cons ?_); (try dsimp only))
  k_with "execs nil" => (k_here; (with_reducible refine gen_le ?_); intro tk' hl'; (try dsimp only at hl'); (with_reducible refine wpAny_execs_nil ?_); (try dsimp only))
  k_fill
  intro w s₀ s₁ mg mb G Y fa o pm cd doc dV kV ho hd hcd hD hmg hg args vals as hpre hlay hrd hwl hlo
  have KX := kIn_of Y
  refine Ground.open G ?_
  intro T B D TE TW
  clear D
  wrow_args hpre hlay hrd hwl hlo
  refine enter_call ?_
  w_top on
  refine codeAny_mono ?_ (fun _ _ g => GoodW.toG g)
  have K0 := below_caller (Top.heap T)
  w_call any ho hd hcd hD T F
  clear hd B TE TW ho hcd hD hmg
  k_drop
  refine light (by assumption) (by assumption) (by assumption) (by assumption) (by assumption) (by assumption) (by assumption) (by assumption) rfl ?_ ?_
  · intro mean mg mb dp un gd a ccd outer A₀ base h₀ L hp g d tk os Q l vs ns B KX T hl hI hz F N hd hu hret
    (try dsimp only)

    refine draws_cut ?_ hl hI hz F N ?_
    · clear hl hI hz F N
      intro vs ns hp g d tk os rest' Q' E' hl hI hz F N k'
      have hI0 := hI
      cases hI with
      | nil =>
        refine wpAny_execs_cons ?_
        try dsimp only
        k_steps
        all_goals (unfold Hold; exact k' _ _ (four_mk (by assumption) (by assumption) (fun y => by (try dsimp only); split <;> rfl)))
      | cons n0 t0 hI =>
        cases hI with
        | nil =>
          refine wpAny_execs_cons ?_
          try dsimp only
          k_steps
          all_goals (unfold Hold; exact k' _ _ (four_mk (by assumption) (by assumption) (fun y => by (try dsimp only); split <;> rfl)))
        | cons n1 t1 hI =>
          cases hI with
          | nil =>
            refine wpAny_execs_cons ?_
            try dsimp only
            k_steps
            all_goals (unfold Hold; exact k' _ _ (four_mk (by assumption) (by assumption) (fun y => by (try dsimp only); split <;> rfl)))
          | cons n2 t2 hI =>
            cases hI with
            | nil =>
              refine wpAny_execs_cons ?_
              try dsimp only
              k_steps
              all_goals (unfold Hold; exact k' _ _ (four_mk (by assumption) (by assumption) (fun y => by (try dsimp only); split <;> rfl)))
            | cons n3 t3 hI =>
              refine wpAny_execs_cons ?_
              try dsimp only
              k_steps
              all_goals (unfold Hold; exact k' _ _ (four_mk (by assumption) (by assumption) (fun y => by (try dsimp only); split <;> rfl)))

    · intro h' tk' h4
      obtain ⟨l4, d0, d1, d2, d3, t0, t1, t2, t3, c4, F', N'⟩ := h4
      refine nets_cut (q4 := (l4, PySem.W.listOf #[.int d0 t0, .int d1 t1, .int d2 t2, .int d3 t3] c4)) F' (fun _ => rfl) ?_ ?_
      · intro tk rest' Q' E' k'
        refine wpAny_execs_cons ?_
        try dsimp only
        k_steps
        · unfold Hold; exact k' _ _ (nets_mk (by assumption) (.head _) (rot_tri (by assumption)).rev (.tail _ (.tail _ (.tail _ (.tail _ (.tail _ (.head _)))))) (by assumption) (.tail _ (.tail _ (.tail _ (.tail _ (.tail _ (.tail _ (.head _))))))) (by assumption) (fun y => by (try dsimp only); unfold netM; (repeat' split) <;> first | rfl | (subst_vars; first | rfl | (exfalso; rename PySem.Str.ofString _ = PySem.Str.ofString _ => hq'; revert hq'; decide))))
        · unfold Hold; exact k' _ _ (nets_mk (by assumption) (.head _) (rot_tri (by assumption)) (.tail _ (.tail _ (.tail _ (.tail _ (.head _))))) (by assumption) (.tail _ (.tail _ (.tail _ (.tail _ (.tail _ (.head _)))))) (by assumption) (fun y => by (try dsimp only); unfold netM; (repeat' split) <;> first | rfl | (subst_vars; first | rfl | (exfalso; rename PySem.Str.ofString _ = PySem.Str.ofString _ => hq'; revert hq'; decide))))
        · unfold Hold; exact k' _ _ (nets_mk (u := none) (by assumption) (.head _) ⟨_, _, _, _, _, _, (by assumption), rfl⟩ (.tail _ (.head _)) (by assumption) (.tail _ (.tail _ (.head _))) (by assumption) (fun y => by (try dsimp only); unfold netM; (repeat' split) <;> first | rfl | (subst_vars; first | rfl | (exfalso; rename PySem.Str.ofString _ = PySem.Str.ofString _ => hq'; revert hq'; decide))))
      · intro h' tk' hn
        obtain ⟨l1, l2, p, q, r, s', t', v', t1, t2, t3, t4, t5, t6, c1, c2, u', tr1, tr2, F', N'⟩ := hn
        unfold netM at F'
        dsimp only at F'
        refine wpAny_execs_cons ?_
        try dsimp only
        k_steps
        unfold Hold
        refine law_turns (by rfl) PassesOwn.never (by k_asm) (by k_asm) ?_ ?_ ?_
        · intro I oI h hI F N
          obtain ⟨sm1', sm2', sm3'⟩ := tri_small tr1
          (try k_lt hI)
          k_steps
          try dsimp only
          rename News _ _ _ _ => zN
          (try simp only [List.push_toArray, List.nil_append, List.cons_append] at zN)
          apply t1_end
          case xF => k_asm
          case xN => k_asm
          case xg => rfl
          case xd => rfl
          case xo => rfl
          case x2 => k_mem
          case x1 => k_mem
          case x3 => k_mem
          any_goals (try with_reducible assumption)
          any_goals (try k_mem)
          any_goals (try k_ne)
          any_goals (try omega)
          all_goals (intro z hz; obtain ⟨q1, q2, q3, q4, q5, q6, q7, q8⟩ := not_lvars hz; simp only [if_neg q1, if_neg q2, if_neg q3, if_neg q4, if_neg q5, if_neg q6, if_neg q7, if_neg q8])
        · intro I oI u nx h tk hB hK hD hne F N
          (try k_lt hB)
          obtain ⟨i1, j1, k1, a1, u1, u2, u3, tw, c3, c4', rf1, e, ⟨ne1, ne2⟩, ⟨lu1, lu2, lu3⟩, lv1, lv2, lv3⟩ := hK
          subst e
          simp only [ovr] at F
          clear hD
          obtain ⟨sm1', sm2', sm3'⟩ := tri_small tr2
          k_steps
          try dsimp only
          rename News _ _ _ _ => zN
          (try simp only [List.push_toArray, List.nil_append, List.cons_append] at zN)
          apply t2_end
          case xF => k_asm
          case xN => k_asm
          case xg => rfl
          case xd => rfl
          case xo => rfl
          case x2 => k_mem
          case x1 => k_mem
          case x3 => k_mem
          case x9 => k_mem
          any_goals (try with_reducible assumption)
          any_goals (try k_mem)
          any_goals (try k_ne)
          any_goals (try omega)
          any_goals (try exact hne (_, _) (by k_mem))
          all_goals (intro z hz; obtain ⟨q1, q2, q3, q4, q5, q6, q7, q8⟩ := not_lvars hz; simp only [if_neg q1, if_neg q2, if_neg q3, if_neg q4, if_neg q5, if_neg q6, if_neg q7, if_neg q8])
        · intro u nx h tk hK F N
          obtain ⟨i1, j1, k1, i2, j2, k2, a1, a2, u1, u2, u3, v1, v2, v3, tw, tw', c3, c4', rf1, rf2, e, ⟨lu1, lu2, lu3⟩, lv1, lv2, lv3⟩ := hK
          subst e
          simp only [ovr] at F
          k_steps
          all_goals exact hret _ _ _ _ (by k_asm) (by k_asm)
  · intro h' m' nw tk' F' N'
    k_steps)
end Mine
end

theorem PySem.Challenge.cw_sr0019_01_holds : PySem.Challenge.rw_sr0019_01.Holds := by
  exact Mine.t0
