import PyProof.Rows.All
import Wide.All
import OpenK.AllK
import Wide.FinOn
import PyProof.IsiH_list
import PySem.Challenge.RW_fe0139_01
set_option Elab.async false
set_option maxRecDepth 100000
set_option maxHeartbeats 8000000
open PySem PySem.W PyProof.Rows
namespace Mine
open_top tp for PySem.Challenge.rw_fe0139_01
end Mine
theorem Mine.calm : True := by
  w_top off
  trivial
namespace Mine
open PySem PySem.W PyProof.Rows PySem.Spec
namespace BR
open PySem.Builtin
theorem slot_strip : Slot "bytes" "strip" "bytes.strip" :=
  .of (owner := "bytes") (n := "strip") (by rw [typeLookup_type, builtinLookup_eq_fast]; kernel_rfl) (by decide +kernel) (by decide +kernel) (by decide +kernel)
    (by first | exact .inl (by decide +kernel) | exact .inr (by decide +kernel)) (by rw [isSubtype_type]; kernel_rfl)
theorem type_strip : typeOf (.builtin "bytes.strip") = pure (.type "method_descriptor") := by show builtinType _ = _; rw [builtinType_eq_fast]; kernel_rfl
theorem entry_strip : entryFor table "bytes.strip" = some Builtin.«bytes.strip» := entryFor_of_tree (by kernel_rfl)
theorem args_strip (a b : Value) : argsOk "bytes.strip" ⟨[a, b], []⟩ := by unfold argsOk; kernel_rfl
theorem slot_upper : Slot "bytes" "upper" "bytes.upper" :=
  .of (owner := "bytes") (n := "upper") (by rw [typeLookup_type, builtinLookup_eq_fast]; kernel_rfl) (by decide +kernel) (by decide +kernel) (by decide +kernel)
    (by first | exact .inl (by decide +kernel) | exact .inr (by decide +kernel)) (by rw [isSubtype_type]; kernel_rfl)
theorem type_upper : typeOf (.builtin "bytes.upper") = pure (.type "method_descriptor") := by show builtinType _ = _; rw [builtinType_eq_fast]; kernel_rfl
theorem entry_upper : entryFor table "bytes.upper" = some Builtin.«bytes.upper» := entryFor_of_tree (by kernel_rfl)
theorem args_upper (a : Value) : argsOk "bytes.upper" ⟨[a], []⟩ := by unfold argsOk; kernel_rfl
theorem slot_split : Slot "bytes" "split" "bytes.split" :=
  .of (owner := "bytes") (n := "split") (by rw [typeLookup_type, builtinLookup_eq_fast]; kernel_rfl) (by decide +kernel) (by decide +kernel) (by decide +kernel)
    (by first | exact .inl (by decide +kernel) | exact .inr (by decide +kernel)) (by rw [isSubtype_type]; kernel_rfl)
theorem type_split : typeOf (.builtin "bytes.split") = pure (.type "method_descriptor") := by show builtinType _ = _; rw [builtinType_eq_fast]; kernel_rfl
theorem entry_split : entryFor table "bytes.split" = some Builtin.«bytes.split» := entryFor_of_tree (by kernel_rfl)
theorem args_split (a b : Value) : argsOk "bytes.split" ⟨[a, b], []⟩ := by unfold argsOk; kernel_rfl
theorem slot_join : Slot "bytes" "join" "bytes.join" :=
  .of (owner := "bytes") (n := "join") (by rw [typeLookup_type, builtinLookup_eq_fast]; kernel_rfl) (by decide +kernel) (by decide +kernel) (by decide +kernel)
    (by first | exact .inl (by decide +kernel) | exact .inr (by decide +kernel)) (by rw [isSubtype_type]; kernel_rfl)
theorem type_join : typeOf (.builtin "bytes.join") = pure (.type "method_descriptor") := by show builtinType _ = _; rw [builtinType_eq_fast]; kernel_rfl
theorem entry_join : entryFor table "bytes.join" = some Builtin.«bytes.join» := entryFor_of_tree (by kernel_rfl)
theorem args_join (a b : Value) : argsOk "bytes.join" ⟨[a, b], []⟩ := by unfold argsOk; kernel_rfl
theorem args_decode2 (a b : Value) : argsOk "bytes.decode" ⟨[a, b], []⟩ := by unfold argsOk; kernel_rfl

/-- what strip leaves -/
def stripped (b c : Array UInt8) : List UInt8 := ((b.toList.dropWhile c.contains).reverse.dropWhile c.contains).reverse
theorem stripped_whole {b c : Array UInt8} (he : (stripped b c).length = b.size) : stripped b c = b.toList := by
  have hsuf : ∀ (l : List UInt8) (p : UInt8 → Bool), (l.dropWhile p).length ≤ l.length := fun l p => (List.dropWhile_sublist p).length_le
  have h1 := hsuf b.toList c.contains
  have h2 := hsuf (b.toList.dropWhile c.contains).reverse c.contains
  have h0 : b.toList.length = b.size := Array.length_toList
  unfold stripped at he
  rw [List.length_reverse] at he
  rw [List.length_reverse] at h2
  have e1 : b.toList.dropWhile c.contains = b.toList := (List.dropWhile_sublist _).eq_of_length (by omega)
  have e2 : (b.toList.dropWhile c.contains).reverse.dropWhile c.contains = (b.toList.dropWhile c.contains).reverse := (List.dropWhile_sublist _).eq_of_length (by rw [List.length_reverse]; omega)
  unfold stripped
  rw [e2, List.reverse_reverse, e1]
section
variable {b c : Array UInt8} {t u : Tok}
theorem meets_strip : Meets («bytes.strip» ⟨[.bytes b t, .bytes c u], []⟩) (fun _ R s => (stripped b c).length ≤ sizeLine ∧ ∀ t' k, R (.ok (.ret (.bytes (stripped b c).toArray t'))) { s with toks := k }) := by
  refine .of_wp fun prog w A R s hS => ?_
  obtain ⟨hsz, h⟩ := hS
  show wpAny _ _ (selfAndSome _ _ 0 1 _ >>= fun r => _) _ _ s
  refine wpAny_bind (wpAny_of_eq (a := (.bytes b t, [.bytes c u])) rfl ?_)
  show wpAny _ _ (Bytes.bytesLike _ (.bytes c u) >>= fun r => _) _ _ s
  refine wpAny_bind (wpAny_of_eq KBd.like_eq ?_)
  refine wpAny_bind (wpAny_pure ?_)
  show wpAny _ _ (Bytes.payload (.bytes b t) >>= fun r => _) _ _ s
  refine wpAny_bind (wpAny_of_eq (a := b) rfl ?_)
  show wpAny _ _ (ite (((stripped b c).length == b.size) = true) _ _) _ _ s
  refine wpAny_ite ?_
  split
  · rename_i he
    refine wpAny_bind (wpAny_rule ?_)
    show wpAny _ _ (Bytes.Kind.same .bytes (.bytes b t) >>= fun r => _) _ _ s
    refine wpAny_bind ?_
    show wpAny _ _ (typeOf (.bytes b t) >>= fun r => _) _ _ s
    refine wpAny_bind (wpAny_typeOf (typeIs_bytes _ b t) ?_)
    refine wpAny_ite (KBc.ite_yes rfl ?_)
    refine wpAny_pure (wpAny_pure ⟨_, rfl, ?_⟩)
    suffices e : b = (stripped b c).toArray by
      have h' := h t s.toks
      rw [← e] at h'
      exact h'
    refine Array.ext' (Eq.symm ?_)
    show stripped b c = b.toList
    exact stripped_whole (beq_iff_eq.mp he)
  · refine wpAny_bind ?_
    show wpAny _ _ (mkBytes _) _ _ s
    exact wpAny_mkBytes (wpAny_pure ⟨_, rfl, h _ _⟩) (by rw [List.size_toArray]; exact hsz)

theorem meets_upper : Meets («bytes.upper» ⟨[.bytes b t], []⟩) (fun _ R s => b.size ≤ sizeLine ∧ ∀ t' k, R (.ok (.ret (.bytes (b.toList.map Bytes.toUpper).toArray t'))) { s with toks := k }) := by
  refine .of_wp fun prog w A R s hS => ?_
  obtain ⟨hsz, h⟩ := hS
  show wpAny _ _ (selfOnly _ _ >>= fun r => _) _ _ s
  refine wpAny_bind (wpAny_of_eq (a := .bytes b t) rfl ?_)
  show wpAny _ _ (Bytes.payload (.bytes b t) >>= fun r => _) _ _ s
  refine wpAny_bind (wpAny_of_eq (a := b) rfl ?_)
  refine wpAny_bind ?_
  show wpAny _ _ (mkBytes _) _ _ s
  exact wpAny_mkBytes (wpAny_pure ⟨_, rfl, h _ _⟩) (by simpa using hsz)
end
section
variable {prog : Program} {w : World} {A : Around} {E : Value → Shared → Prop} {s : Shared} {b c : Array UInt8} {t u : Tok}
theorem strip {Q : Value → Shared → Prop} (hsz : (stripped b c).length ≤ sizeLine) (h : ∀ t' k, Q (.bytes (stripped b c).toArray t') { s with toks := k }) :
    wpAny (model prog w) A (call (.builtin "bytes.strip") [.bytes b t, .bytes c u]) Q E s :=
  call_meets slot_strip (typeIs_bytes _ _ _) entry_strip (args_strip _ _) meets_strip ⟨hsz, h⟩
theorem upper {Q : Value → Shared → Prop} (hsz : b.size ≤ sizeLine) (h : ∀ t' k, Q (.bytes (b.toList.map Bytes.toUpper).toArray t') { s with toks := k }) :
    wpAny (model prog w) A (call (.builtin "bytes.upper") [.bytes b t]) Q E s :=
  call_meets slot_upper (typeIs_bytes _ _ _) entry_upper (args_upper _) meets_upper ⟨hsz, h⟩
theorem method_strip {M : Model} {pl : Sem Bool} {Q : Value × List Value → Shared → Prop} (h : Q (.builtin "bytes.strip", [.bytes b t]) s) : wpAny M A (getMethod (.bytes b t) "strip" pl) Q E s := by
  with_reducible exact KBd.method_of (.bytes b t) (typeIs_bytes _ _ _) slot_strip type_strip KBd.noRef h
theorem method_upper {M : Model} {pl : Sem Bool} {Q : Value × List Value → Shared → Prop} (h : Q (.builtin "bytes.upper", [.bytes b t]) s) : wpAny M A (getMethod (.bytes b t) "upper" pl) Q E s := by
  with_reducible exact KBd.method_of (.bytes b t) (typeIs_bytes _ _ _) slot_upper type_upper KBd.noRef h
theorem method_split {M : Model} {pl : Sem Bool} {Q : Value × List Value → Shared → Prop} (h : Q (.builtin "bytes.split", [.bytes b t]) s) : wpAny M A (getMethod (.bytes b t) "split" pl) Q E s := by
  with_reducible exact KBd.method_of (.bytes b t) (typeIs_bytes _ _ _) slot_split type_split KBd.noRef h
theorem method_join {M : Model} {pl : Sem Bool} {Q : Value × List Value → Shared → Prop} (h : Q (.builtin "bytes.join", [.bytes b t]) s) : wpAny M A (getMethod (.bytes b t) "join" pl) Q E s := by
  with_reducible exact KBd.method_of (.bytes b t) (typeIs_bytes _ _ _) slot_join type_join KBd.noRef h
end
end BR
end Mine
namespace Mine
open PySem PySem.W PyProof.Rows PySem.Spec
namespace BR
open PySem.Builtin
/-- the parts that split by one sign gives -/
def parts (b c : Array UInt8) : List (Array UInt8) :=
  if (((Bytes.occurrences b c 0 b.size).take (b.size + 1)).isEmpty) = true then [b] else Bytes.between b c.size ((Bytes.occurrences b c 0 b.size).take (b.size + 1))
def bytesValues (l : List (Array UInt8 × Tok)) : List Value := l.map fun p => .bytes p.1 p.2
theorem wp_many {prog : Program} {w : World} {A : Around} {E : Value → Shared → Prop} : ∀ (bs : List (Array UInt8)) (s : Shared) (Q : List Value → Shared → Prop), (∀ b ∈ bs, b.size ≤ sizeLine) →
    (∀ l k, l.map (·.1) = bs → Q (bytesValues l) { s with toks := k }) → wpAny (model prog w) A (bs.mapM (Bytes.Kind.new .bytes)) Q E s := by
  intro bs
  induction bs with
  | nil => intro s Q _ h; exact wpAny_pure (h [] s.toks rfl)
  | cons b r ih =>
    intro s Q hs h
    rw [List.mapM_cons]
    refine wpAny_bind ?_
    show wpAny _ _ (mkBytes b) _ _ s
    refine wpAny_mkBytes ?_ (hs b (.head _))
    refine wpAny_bind (ih _ _ (fun x hx => hs x (.tail _ hx)) fun l k e => ?_)
    refine wpAny_pure ?_
    exact h ((b, s.toks) :: l) k (by rw [List.map_cons, e])
section
variable {b c : Array UInt8} {t u : Tok}
theorem meets_split : Meets («bytes.split» ⟨[.bytes b t, .bytes c u], []⟩) (fun _ R s => c.isEmpty = false ∧ (parts b c).length ≤ sizeLine ∧ (∀ p ∈ parts b c, p.size ≤ sizeLine) ∧
    ∀ l k, l.map (·.1) = parts b c → R (.ok (.ret (.ref s.heap.objs.size))) { s with heap := s.heap.push { cls := .type "list", data := .seq (bytesValues l).toArray }, toks := k }) := by
  refine .of_wp fun prog w A R s hS => ?_
  obtain ⟨hne, hln, hsz, h⟩ := hS
  show wpAny _ _ (Bytes.bindOptional _ _ ["sep", "maxsplit"] [.bytes c u] [] >>= fun r => _) _ _ s
  refine wpAny_bind (wpAny_of_eq (a := [some (.bytes c u), none]) (by kernel_rfl) ?_)
  show wpAny _ _ ((pure (-1) : Sem Int) >>= fun r => _) _ _ s
  refine wpAny_bind (wpAny_pure ?_)
  show wpAny _ _ (Bytes.payload (.bytes b t) >>= fun r => _) _ _ s
  refine wpAny_bind (wpAny_of_eq (a := b) rfl ?_)
  show wpAny _ _ (Bytes.bytesLike _ (.bytes c u) >>= fun r => _) _ _ s
  refine wpAny_bind (wpAny_of_eq KBd.like_eq ?_)
  refine wpAny_ite ?_
  rw [if_neg (by rw [hne]; exact Bool.false_ne_true)]
  show wpAny _ _ (ite ((((Bytes.occurrences b c 0 b.size).take (b.size + 1)).isEmpty) = true) _ _) _ _ s
  refine wpAny_ite ?_
  unfold parts at hsz h hln
  split
  · rename_i he
    rw [if_pos he] at hsz h hln
    refine wpAny_bind (wpAny_rule ?_)
    show wpAny _ _ (Bytes.Kind.same .bytes (.bytes b t) >>= fun r => _) _ _ s
    refine wpAny_bind ?_
    show wpAny _ _ (typeOf (.bytes b t) >>= fun r => _) _ _ s
    refine wpAny_bind (wpAny_typeOf (typeIs_bytes _ b t) ?_)
    refine wpAny_ite (KBc.ite_yes rfl ?_)
    refine wpAny_pure ?_
    refine wpAny_bind (wpAny_newList ?_)
    exact wpAny_pure ⟨_, rfl, h [(b, t)] s.toks rfl⟩
  · rename_i he
    rw [if_neg he] at hsz h hln
    refine wpAny_bind ?_
    refine wp_many _ _ _ hsz fun l k e => ?_
    have e : l.map (·.1) = Bytes.between b c.size ((Bytes.occurrences b c 0 b.size).take (b.size + 1)) := e
    have hl : (bytesValues l).length ≤ sizeLine := by
      rw [← e, List.length_map] at hln
      unfold bytesValues
      rw [List.length_map]; exact hln
    refine wpAny_bind (wpAny_newList ?_ hl)
    exact wpAny_pure ⟨_, rfl, h l k e⟩
end
section
variable {prog : Program} {w : World} {A : Around} {E : Value → Shared → Prop} {s : Shared} {b c : Array UInt8} {t u : Tok} {h₀ : Heap} {L : Addr} {m : PySem.Str → Option Value} {news : List (Addr × Obj)}
theorem split {Q : Value → Shared → Prop} (F : Fr h₀ L s.heap m) (N : News h₀ L s.heap news) (hc : c.isEmpty = false) (hln : (parts b c).length ≤ sizeLine) (hsz : ∀ p ∈ parts b c, p.size ≤ sizeLine)
    (h : ∀ D l h' k, l.map (·.1) = parts b c → Fr h₀ L h' m → News h₀ L h' ((D, listOf (bytesValues l).toArray 0) :: news) → (∀ p ∈ news, p.1 < D) → Q (.ref D) { s with heap := h', toks := k }) :
    wpAny (model prog w) A (call (.builtin "bytes.split") [.bytes b t, .bytes c u]) Q E s :=
  call_meets slot_split (typeIs_bytes _ _ _) entry_split (args_split _ _) meets_split ⟨hc, hln, hsz, fun l k e => h _ l _ k e (F.push _) (N.push F _ rfl) fun p hp => Heap.lt_size (N p hp).1⟩
end
end BR
end Mine
namespace Mine
open PySem PySem.W PyProof.Rows PySem.Spec
namespace BR
open PySem.Builtin
theorem foldl_one (f : Nat → List UInt8) (g : Nat → UInt8) : ∀ (l : List Nat) (acc : Array UInt8), (∀ c ∈ l, f c = [g c]) → l.foldl (fun acc y => acc ++ (f y).toArray) acc = acc ++ (l.map g).toArray := by
  intro l
  induction l with
  | nil => intro acc _; simp
  | cons c r ih =>
    intro acc h
    rw [List.foldl_cons, ih _ (fun d hd => h d (.tail _ hd)), h c (.head _)]
    simp
theorem enc_wp {M : Model} {A : Around} {E : Value → Shared → Prop} {s : Shared} {x : Str} {id : String} {v : Value} {Q : Array UInt8 → Shared → Prop} (hx : ∀ c ∈ x.cps.toList, c < 128) (hz : x.cps.size ≤ sizeLine)
   (h : Q (x.cps.toList.map fun c => c.toUInt8).toArray s) : wpAny M A (_codecs.encodeNarrow id _codecs.utf8Codec none v x) Q E s := by
  unfold _codecs.encodeNarrow
  show wpAny M A (forIn [:x.length] ((0 : Nat), (#[] : Array UInt8), ({} : _codecs.Faults)) _ >>= _) Q E s
  refine wpAny_bind ?_
  rw [Std.Legacy.Range.forIn_eq_forIn_range']
  simp only [Std.Legacy.Range.size, Nat.sub_zero, Nat.add_sub_cancel, Nat.div_one]
  have hbad : ∀ c ∈ x.cps.toList, _codecs.utf8Codec.bad c = false := by
    intro c hc
    have := hx c hc
    show Str.isSurrogate c = false
    unfold Str.isSurrogate
    simp; omega
  have hbytes : ∀ c ∈ x.cps.toList, _codecs.utf8Codec.bytesOf c = [c.toUInt8] := by
    intro c hc
    have := hx c hc
    show Str.utf8Of c = _
    unfold Str.utf8Of
    rw [if_pos (by omega)]
  have hlen : x.length = x.cps.size := rfl
  refine wpAny_forIn_list _
      (fun rest (st : Nat × Array UInt8 × _codecs.Faults) s' => s' = s ∧ rest.length ≤ x.cps.size ∧ ((rest.length = x.cps.size ∧ st.1 = 0 ∧ st.2.1 = #[]) ∨ (st.1 = x.cps.size ∧ st.2.1 = (x.cps.toList.map fun c => c.toUInt8).toArray ∧ rest.length < x.cps.size)))
      _ ?_ ?_ _ _ ⟨rfl, by simp [hlen], .inl ⟨by simp [hlen], rfl, rfl⟩⟩
  · rintro _ rest ⟨i, out, st⟩ s' ⟨rfl, hle, h1⟩
    simp only [List.length_cons] at hle h1
    have hsz : ¬ (out.size > sizeLine) ∨ out.size > sizeLine := by omega
    rcases h1 with ⟨hr, hi, ho⟩ | ⟨hi, ho, hr⟩
    · skip
      subst hi ho
      have hpos : 0 < x.cps.size := by omega
      dsimp only
      rw [if_neg (by decide)]
      rw [Array.getElem?_eq_getElem hpos]
      dsimp only
      rw [hbad _ (Array.getElem_mem_toList _)]
      refine wpAny_ite (KBc.ite_yes rfl ?_)
      have hfind : Array.findIdx? _codecs.utf8Codec.bad (x.cps.extract 0) = none := by
        rw [Array.findIdx?_eq_none_iff]
        intro c hc
        refine hbad c (Array.mem_toList_iff.mpr ?_)
        simpa using hc
      rw [hfind]
      refine wpAny_pure ?_
      refine ⟨rfl, by omega, .inr ⟨?_, ?_, by omega⟩⟩
      · simp
      · show Array.foldl _ _ (Array.extract _ 0 _) = _
        rw [← Array.foldl_toList, foldl_one _ (fun c => c.toUInt8) _ _ (fun c hc => hbytes c (by simpa using hc))]
        simp
    · skip
      subst hi ho
      dsimp only
      have hns : (List.map (fun c => c.toUInt8) x.cps.toList).toArray.size = x.cps.size := by simp
      rw [hns]
      by_cases hbig : x.cps.size > sizeLine
      · exact absurd hz (Nat.not_le_of_gt hbig)
      · rw [if_neg hbig]
        rw [Array.getElem?_eq_none (Nat.le_refl _)]
        dsimp only
        refine wpAny_pure ?_
        exact wpAny_pure h
  · rintro ⟨i, out, st⟩ s' ⟨rfl, hle, h1⟩
    rcases h1 with ⟨hr, hi, ho⟩ | ⟨hi, ho, hr⟩
    · simp only at ho
      subst ho
      have h0 : x.cps.toList = [] := List.eq_nil_of_length_eq_zero (by rw [Array.length_toList]; exact hr.symm)
      rw [h0] at h
      exact wpAny_pure h
    · simp only at ho
      subst ho
      exact wpAny_pure h
theorem dec_wp {M : Model} {A : Around} {E : Value → Shared → Prop} {s : Shared} {b : Array UInt8} {id : String} {Q : (Array Nat × Nat) → Shared → Prop} (hx : ∀ c ∈ b.toList, c.toNat < 128) (hz : b.size ≤ sizeLine)
   (h : ∀ n, Q ((b.toList.map fun c => c.toNat).toArray, n) s) : wpAny M A (_codecs.runDecoder id _codecs.utf8Decoder none true b 0 []) Q E s := by
  unfold _codecs.runDecoder
  show wpAny M A (forIn [:b.size] ((0 : Nat), (#[] : Array Nat), ({ held := [] } : _codecs.Faults)) _ >>= _) Q E s
  refine wpAny_bind ?_
  rw [Std.Legacy.Range.forIn_eq_forIn_range']
  simp only [Std.Legacy.Range.size, Nat.sub_zero, Nat.add_sub_cancel, Nat.div_one]
  refine wpAny_forIn_list _
      (fun rest (st : Nat × Array Nat × _codecs.Faults) s' => s' = s ∧ rest.length + st.1 = b.size ∧ st.2.1 = ((b.toList.take st.1).map fun c => c.toNat).toArray)
      _ ?_ ?_ _ _ ⟨rfl, by simp, by simp⟩
  · rintro _ rest ⟨i, out, st⟩ s' ⟨rfl, hle, ho⟩
    simp only [List.length_cons] at hle ho
    subst ho
    have hi : i < b.size := by omega
    have hns : (List.map (fun c => c.toNat) (b.toList.take i)).toArray.size = i := by simp; omega
    dsimp only
    rw [hns]
    rw [if_neg (by omega)]
    rw [if_neg (by omega)]
    have hget : b.getD i 0 = b.toList[i]'(by simpa using hi) := by simp [Array.getD, hi]
    have hc := hx _ (List.getElem_mem (by simpa using hi : i < b.toList.length))
    have e : _codecs.utf8Decoder.find true b i = .char (b.toList[i]'(by simpa using hi)).toNat (i + 1) := by
      have e1 : Bytes.utf8At b i = (.char (b.toList[i]'(by simpa using hi)).toNat, i + 1) := by
        unfold Bytes.utf8At
        rw [hget]
        dsimp only
        rw [if_pos (by omega)]
      unfold _codecs.utf8Decoder
      dsimp only
      rw [e1]
    rw [e]
    refine wpAny_pure ?_
    refine ⟨rfl, by dsimp only; omega, ?_⟩
    dsimp only
    rw [List.take_add_one, List.getElem?_eq_getElem (by simpa using hi)]
    simp
  · rintro ⟨i, out, st⟩ s' ⟨rfl, hle, ho⟩
    simp only [List.length_nil] at hle ho
    subst ho
    refine wpAny_pure ?_
    have e : b.toList.take i = b.toList := List.take_of_length_le (by simp; omega)
    dsimp only
    rw [e]
    exact h i
theorem utf8_low {b : Array UInt8} {i : Nat} (hi : i < b.size) (hc : (b.toList[i]'(by simpa using hi)).toNat < 128) : _codecs.utf8Decoder.find true b i = .char (b.toList[i]'(by simpa using hi)).toNat (i + 1) := by
  have hget : b.getD i 0 = b.toList[i]'(by simpa using hi) := by simp [Array.getD, hi]
  have e1 : Bytes.utf8At b i = (.char (b.toList[i]'(by simpa using hi)).toNat, i + 1) := by
    unfold Bytes.utf8At
    rw [hget]
    dsimp only
    rw [if_pos (by omega)]
  unfold _codecs.utf8Decoder
  dsimp only
  rw [e1]
theorem dec2_wp {M : Model} {A : Around} {E : Value → Shared → Prop} {s : Shared} {b : Array UInt8} {r : List UInt8} {id : String} {Q : (Array Nat × Nat) → Shared → Prop} (hb : b.toList = 195 :: 169 :: r) (hx : ∀ c ∈ r, c.toNat < 128) (hz : b.size ≤ sizeLine)
   (h : ∀ n, Q ((233 :: r.map fun c => c.toNat).toArray, n) s) : wpAny M A (_codecs.runDecoder id _codecs.utf8Decoder none true b 0 []) Q E s := by
  have hlen : b.size = r.length + 2 := by rw [← Array.length_toList, hb]; rfl
  unfold _codecs.runDecoder
  show wpAny M A (forIn [:b.size] ((0 : Nat), (#[] : Array Nat), ({ held := [] } : _codecs.Faults)) _ >>= _) Q E s
  refine wpAny_bind ?_
  rw [Std.Legacy.Range.forIn_eq_forIn_range']
  simp only [Std.Legacy.Range.size, Nat.sub_zero, Nat.add_sub_cancel, Nat.div_one]
  refine wpAny_forIn_list _
      (fun rest (st : Nat × Array Nat × _codecs.Faults) s' => s' = s ∧ ((rest.length = b.size ∧ st.1 = 0 ∧ st.2.1 = #[]) ∨ (∃ k, st.1 = k + 2 ∧ rest.length + st.1 = b.size + 1 ∧ st.2.1 = (233 :: (r.take k).map fun c => c.toNat).toArray)))
      _ ?_ ?_ _ _ ⟨rfl, .inl ⟨by simp, rfl, rfl⟩⟩
  · rintro _ rest ⟨i, out, st⟩ s' ⟨rfl, h1⟩
    simp only [List.length_cons] at h1
    rcases h1 with ⟨hr, hi, ho⟩ | ⟨k, hi, hle, ho⟩
    · subst hi ho
      dsimp only
      rw [if_neg (by decide), if_neg (by omega)]
      have e : _codecs.utf8Decoder.find true b 0 = .char 233 2 := by
        have e1 : Bytes.utf8At b 0 = (.char 233, 2) := by
          have : b = (195 :: 169 :: r).toArray := by rw [← hb]
          rw [this]
          kernel_rfl
        unfold _codecs.utf8Decoder
        dsimp only
        rw [e1]
      rw [e]
      refine wpAny_pure ⟨rfl, .inr ⟨0, rfl, by dsimp only; omega, ?_⟩⟩
      rfl
    · subst hi ho
      dsimp only
      have hns : (233 :: List.map (fun c : UInt8 => c.toNat) (r.take k)).toArray.size = k + 1 := by simp; omega
      rw [hns, if_neg (by omega)]
      by_cases hend : k + 2 ≥ b.size
      · rw [if_pos hend]
        refine wpAny_pure ?_
        have e : r.take k = r := List.take_of_length_le (by omega)
        refine wpAny_pure ?_
        rw [e]
        exact h _
      · rw [if_neg hend]
        have hk : k < r.length := by omega
        have hg : b.toList[k + 2]'(by rw [Array.length_toList]; omega) = r[k] := by simp only [hb]; rfl
        have e := utf8_low (b := b) (i := k + 2) (by omega) (by rw [hg]; exact hx _ (List.getElem_mem hk))
        rw [e, hg]
        refine wpAny_pure ⟨rfl, .inr ⟨k + 1, rfl, by dsimp only; omega, ?_⟩⟩
        dsimp only
        rw [List.take_add_one, List.getElem?_eq_getElem hk]
        simp
        rw [List.take_add_one, List.getElem?_map, List.getElem?_eq_getElem hk]
        rfl
  · rintro ⟨i, out, st⟩ s' ⟨rfl, h1⟩
    simp only [List.length_nil] at h1
    rcases h1 with ⟨hr, _, _⟩ | ⟨k, hi, hle, ho⟩
    · omega
    · subst hi ho
      have e : r.take k = r := List.take_of_length_le (by omega)
      refine wpAny_pure ?_
      dsimp only
      rw [e]
      exact h _
theorem asc_wp {M : Model} {A : Around} {E : Value → Shared → Prop} {s : Shared} {b : Array UInt8} {id : String} {Q : (Array Nat × Nat) → Shared → Prop} (hx : ∀ c ∈ b.toList, c.toNat < 128) (hz : b.size ≤ sizeLine)
   (h : ∀ n, Q ((b.toList.map fun c => c.toNat).toArray, n) s) : wpAny M A (_codecs.runDecoder id _codecs.asciiDecoder none true b 0 []) Q E s := by
  unfold _codecs.runDecoder
  show wpAny M A (forIn [:b.size] ((0 : Nat), (#[] : Array Nat), ({ held := [] } : _codecs.Faults)) _ >>= _) Q E s
  refine wpAny_bind ?_
  rw [Std.Legacy.Range.forIn_eq_forIn_range']
  simp only [Std.Legacy.Range.size, Nat.sub_zero, Nat.add_sub_cancel, Nat.div_one]
  refine wpAny_forIn_list _
      (fun rest (st : Nat × Array Nat × _codecs.Faults) s' => s' = s ∧ rest.length + st.1 = b.size ∧ st.2.1 = ((b.toList.take st.1).map fun c => c.toNat).toArray)
      _ ?_ ?_ _ _ ⟨rfl, by simp, by simp⟩
  · rintro _ rest ⟨i, out, st⟩ s' ⟨rfl, hle, ho⟩
    simp only [List.length_cons] at hle ho
    subst ho
    have hi : i < b.size := by omega
    have hns : (List.map (fun c => c.toNat) (b.toList.take i)).toArray.size = i := by simp; omega
    dsimp only
    rw [hns]
    rw [if_neg (by omega)]
    rw [if_neg (by omega)]
    have hget : b.getD i 0 = b.toList[i]'(by simpa using hi) := by simp [Array.getD, hi]
    have hc := hx _ (List.getElem_mem (by simpa using hi : i < b.toList.length))
    have e : _codecs.asciiDecoder.find true b i = .char (b.toList[i]'(by simpa using hi)).toNat (i + 1) := by
      unfold _codecs.asciiDecoder
      dsimp only
      rw [hget, if_pos hc]
    rw [e]
    refine wpAny_pure ?_
    refine ⟨rfl, by dsimp only; omega, ?_⟩
    dsimp only
    rw [List.take_add_one, List.getElem?_eq_getElem (by simpa using hi)]
    simp
  · rintro ⟨i, out, st⟩ s' ⟨rfl, hle, ho⟩
    simp only [List.length_nil] at hle ho
    subst ho
    refine wpAny_pure ?_
    have e : b.toList.take i = b.toList := List.take_of_length_le (by simp; omega)
    dsimp only
    rw [e]
    exact h i
end BR
end Mine
namespace Mine
open PySem PySem.W PyProof.Rows PySem.Spec
namespace BR
open PySem.Builtin
section
variable {b : Array UInt8} {c : UInt8} {cs : List UInt8} {t : Tok} {x : PySem.Str} {n : Nat}
/-- the decoder's answer, as a rule -/
def Decodes (d : _codecs.Decoder) (b : Array UInt8) (x : Array Nat) : Prop :=
  ∀ (M : Model) (A : Around) (E : Value → Shared → Prop) (s : Shared) (id : String) (Q : (Array Nat × Nat) → Shared → Prop), (∀ n, Q (x, n) s) → wpAny M A (_codecs.runDecoder id d none true b 0 []) Q E s
theorem Decodes.low (hx : ∀ c ∈ b.toList, c.toNat < 128) (hz : b.size ≤ sizeLine) : Decodes _codecs.utf8Decoder b (b.toList.map fun c => c.toNat).toArray := fun _ _ _ _ _ _ h => dec_wp hx hz h
theorem Decodes.two {r : List UInt8} (hb : b.toList = 195 :: 169 :: r) (hx : ∀ c ∈ r, c.toNat < 128) (hz : b.size ≤ sizeLine) : Decodes _codecs.utf8Decoder b (233 :: r.map fun c => c.toNat).toArray := fun _ _ _ _ _ _ h => dec2_wp hb hx hz h
theorem Decodes.ascii (hx : ∀ c ∈ b.toList, c.toNat < 128) (hz : b.size ≤ sizeLine) : Decodes _codecs.asciiDecoder b (b.toList.map fun c => c.toNat).toArray := fun _ _ _ _ _ _ h => asc_wp hx hz h
theorem road_ascii {id : String} : _codecs.decodeRoad id b (PySem.Str.ofString "ascii") none [] = (_codecs.runDecoder id _codecs.asciiDecoder none true b 0 [] >>= fun r => mkStr ⟨r.1⟩) := by kernel_rfl
theorem meets_text8 {t1 t2 : Tok} {d : PySem.Str} {y : Array Nat} (hd : Decodes _codecs.utf8Decoder b y) :
    Meets («_codecs.decode.text» ⟨[.bytes b t, .str (PySem.Str.ofString "utf-8") t1, .none, .str d t2], []⟩) (fun _ R s => y.size ≤ sizeLine ∧ R (.ok (.ret (.str ⟨y⟩ s.toks))) { s with toks := s.toks + 1 }) := by
  refine .of_wp fun prog w A R s hS => ?_
  obtain ⟨hsz, h⟩ := hS
  show wpAny _ _ (Bytes.bytesLike _ (.bytes b t) >>= fun r => _) _ _ s
  refine wpAny_bind (wpAny_of_eq KBd.like_eq ?_)
  refine wpAny_bind (wpAny_of_eq KBd.held_eq ?_)
  show wpAny _ _ (_codecs.decodeRoad _ b (PySem.Str.ofString "utf-8") none [] >>= fun v => _) _ _ s
  rw [KBd.road_eq]
  refine wpAny_bind (wpAny_bind (hd _ _ _ _ _ _ fun n => ?_))
  exact wpAny_mkStr (wpAny_pure ⟨_, rfl, h⟩) hsz
theorem meets_textA {t1 t2 : Tok} {d : PySem.Str} {y : Array Nat} (hd : Decodes _codecs.asciiDecoder b y) :
    Meets («_codecs.decode.text» ⟨[.bytes b t, .str (PySem.Str.ofString "ascii") t1, .none, .str d t2], []⟩) (fun _ R s => y.size ≤ sizeLine ∧ R (.ok (.ret (.str ⟨y⟩ s.toks))) { s with toks := s.toks + 1 }) := by
  refine .of_wp fun prog w A R s hS => ?_
  obtain ⟨hsz, h⟩ := hS
  show wpAny _ _ (Bytes.bytesLike _ (.bytes b t) >>= fun r => _) _ _ s
  refine wpAny_bind (wpAny_of_eq KBd.like_eq ?_)
  refine wpAny_bind (wpAny_of_eq KBd.held_eq ?_)
  show wpAny _ _ (_codecs.decodeRoad _ b (PySem.Str.ofString "ascii") none [] >>= fun v => _) _ _ s
  rw [road_ascii]
  refine wpAny_bind (wpAny_bind (hd _ _ _ _ _ _ fun n => ?_))
  exact wpAny_mkStr (wpAny_pure ⟨_, rfl, h⟩) hsz
theorem dec_entry8 {u : Tok} : «bytes.decode» ⟨[.bytes (c :: cs).toArray t, .str (PySem.Str.ofString "utf-8") u], []⟩ = (mkStr (PySem.Str.ofString "utf-8") >>= fun _ => mkStr (PySem.Str.ofString "utf-8") >>= fun e => mkStr (PySem.Str.ofString "bytes.decode") >>= fun d =>
    call (.builtin "_codecs.decode.text") [.bytes (c :: cs).toArray t, e, .none, d] >>= fun v => ret v) := by kernel_rfl
theorem dec_entryA {u : Tok} : «bytes.decode» ⟨[.bytes (c :: cs).toArray t, .str (PySem.Str.ofString "ascii") u], []⟩ = (mkStr (PySem.Str.ofString "utf-8") >>= fun _ => mkStr (PySem.Str.ofString "ascii") >>= fun e => mkStr (PySem.Str.ofString "bytes.decode") >>= fun d =>
    call (.builtin "_codecs.decode.text") [.bytes (c :: cs).toArray t, e, .none, d] >>= fun v => ret v) := by kernel_rfl
theorem meets_decode8 {u : Tok} {y : Array Nat} (hd : Decodes _codecs.utf8Decoder (c :: cs).toArray y) :
    Meets («bytes.decode» ⟨[.bytes (c :: cs).toArray t, .str (PySem.Str.ofString "utf-8") u], []⟩) (fun _ R s => y.size ≤ sizeLine ∧ ∀ t' k, R (.ok (.ret (.str ⟨y⟩ t'))) { s with toks := k }) := by
  refine .of_wp fun prog w A R s hS => ?_
  obtain ⟨hsz, h⟩ := hS
  rw [dec_entry8]
  refine wpAny_bind (wpAny_mkStr ?_ (by decide))
  refine wpAny_bind (wpAny_mkStr ?_ (by decide))
  refine wpAny_bind (wpAny_mkStr ?_ (by decide))
  exact wpAny_bind (call_function_meets KBd.kind_text KBd.plain_text KBd.entry_text (KBd.args_text _ _ _ _) (meets_text8 hd) ⟨hsz, wpAny_pure ⟨_, rfl, h _ _⟩⟩)
theorem meets_decodeA {u : Tok} {y : Array Nat} (hd : Decodes _codecs.asciiDecoder (c :: cs).toArray y) :
    Meets («bytes.decode» ⟨[.bytes (c :: cs).toArray t, .str (PySem.Str.ofString "ascii") u], []⟩) (fun _ R s => y.size ≤ sizeLine ∧ ∀ t' k, R (.ok (.ret (.str ⟨y⟩ t'))) { s with toks := k }) := by
  refine .of_wp fun prog w A R s hS => ?_
  obtain ⟨hsz, h⟩ := hS
  rw [dec_entryA]
  refine wpAny_bind (wpAny_mkStr ?_ (by decide))
  refine wpAny_bind (wpAny_mkStr ?_ (by decide))
  refine wpAny_bind (wpAny_mkStr ?_ (by decide))
  exact wpAny_bind (call_function_meets KBd.kind_text KBd.plain_text KBd.entry_text (KBd.args_text _ _ _ _) (meets_textA hd) ⟨hsz, wpAny_pure ⟨_, rfl, h _ _⟩⟩)
theorem enc_entry {u : Tok} : «str.encode» ⟨[.str x t, .str (PySem.Str.ofString "utf-8") u], []⟩ = ((_codecs.encodeNarrow "str.encode" _codecs.utf8Codec none (.str x t) x >>= fun b => mkBytes b) >>= fun v => ret v) := by kernel_rfl
theorem meets_encode {u : Tok} (hx : ∀ c ∈ x.cps.toList, c < 128) (hz : x.cps.size ≤ sizeLine) :
    Meets («str.encode» ⟨[.str x t, .str (PySem.Str.ofString "utf-8") u], []⟩) (fun _ R s => ∀ t' k, R (.ok (.ret (.bytes (x.cps.toList.map fun c => c.toUInt8).toArray t'))) { s with toks := k }) := by
  refine .of_wp fun prog w A R s h => ?_
  rw [enc_entry]
  refine wpAny_bind (wpAny_bind (enc_wp hx hz ?_))
  exact wpAny_mkBytes (wpAny_pure ⟨_, rfl, h _ _⟩) (by simpa using hz)
end
section
variable {prog : Program} {w : World} {A : Around} {E : Value → Shared → Prop} {s : Shared} {b c : Array UInt8} {t u : Tok} {x : Str} {y : Array Nat}
theorem decode8 {Q : Value → Shared → Prop} (hd : Decodes _codecs.utf8Decoder b y) (hb : 0 < b.size) (hsz : y.size ≤ sizeLine) (h : ∀ t' k, Q (.str ⟨y⟩ t') { s with toks := k }) :
    wpAny (model prog w) A (call (.builtin "bytes.decode") [.bytes b t, .str (PySem.Str.ofString "utf-8") u]) Q E s := by
  obtain ⟨l⟩ := b
  cases l with
  | nil => exact absurd hb (by simp)
  | cons c cs => exact call_meets FB.slot_bytes_decode (typeIs_bytes _ _ _) FB.entry_bytes_decode (args_decode2 _ _) (meets_decode8 hd) ⟨hsz, h⟩
theorem decodeA {Q : Value → Shared → Prop} (hd : Decodes _codecs.asciiDecoder b y) (hb : 0 < b.size) (hsz : y.size ≤ sizeLine) (h : ∀ t' k, Q (.str ⟨y⟩ t') { s with toks := k }) :
    wpAny (model prog w) A (call (.builtin "bytes.decode") [.bytes b t, .str (PySem.Str.ofString "ascii") u]) Q E s := by
  obtain ⟨l⟩ := b
  cases l with
  | nil => exact absurd hb (by simp)
  | cons c cs => exact call_meets FB.slot_bytes_decode (typeIs_bytes _ _ _) FB.entry_bytes_decode (args_decode2 _ _) (meets_decodeA hd) ⟨hsz, h⟩
theorem encode {Q : Value → Shared → Prop} (hx : ∀ c ∈ x.cps.toList, c < 128) (hz : x.cps.size ≤ sizeLine) (h : ∀ t' k, Q (.bytes (x.cps.toList.map fun c => c.toUInt8).toArray t') { s with toks := k }) :
    wpAny (model prog w) A (call (.builtin "str.encode") [.str x t, .str (PySem.Str.ofString "utf-8") u]) Q E s :=
  call_meets F.slot_str_encode (typeIs_str _ _ _) F.entry_str_encode (F.args_str_encode_2 _ _) (meets_encode hx hz) h
end
end BR
end Mine
namespace Mine
open PySem PySem.W PyProof.Rows PySem.Spec
namespace BR
open PySem.Builtin
theorem take_quiet {id : String} {b : Array UInt8} {t : Tok} : Bytes.takeBufferQuiet? id (.bytes b t) 0 = pure (some (b, none)) := by
  have e : Bytes.takeBuffer? id (.bytes b t) 0 = pure (some (b, none)) := by
    unfold Bytes.takeBuffer?
    rw [KBy.special_eq KBy.look_buffer, KBy.own_buffer]
    have := KBy.buffer_eq (id := id) (b := b) (t := t)
    show ((Bytes.buffer? id (Value.bytes b t) ((0 : Int) == Bytes.fullReadOnly)) >>= fun r => _) = _
    rw [show ((0 : Int) == Bytes.fullReadOnly) = false from rfl, this]
    rfl
  unfold Bytes.takeBufferQuiet?
  rw [e]
  rfl
theorem join_nil : ∀ (l : List (Array UInt8)) (k : Nat) (acc : Array UInt8), (l.zipIdx k).foldl (fun out p => (if p.2 > 0 then out ++ (#[] : Array UInt8) else out) ++ p.1) acc = acc ++ (l.map (·.toList)).flatten.toArray := by
  intro l
  induction l with
  | nil => intro k acc; simp
  | cons b r ih =>
    intro k acc
    rw [List.zipIdx_cons, List.foldl_cons, ih]
    apply Array.ext'
    simp
theorem joined_nil (l : List (Array UInt8)) : Bytes.joined #[] l = (l.map (·.toList)).flatten.toArray := by
  have := join_nil l 0 #[]
  simpa [Bytes.joined] using this
section
variable {M : Model} {A : Around} {E : Value → Shared → Prop} {s : Shared}
theorem wp_seqItems {a : Addr} {o : Obj} {xs : Array Value} {n : Nat} {Q : Option (Array Value) → Shared → Prop} (ho : s.heap.get? a = some o) (hd : o.data = .seq xs n) (h : Q (some xs) s) : wpAny M A (seqItems? (.ref a)) Q E s := by
  unfold seqItems?
  refine wpAny_bind (wpAny_load ho ?_)
  rw [hd]
  exact wpAny_pure h
theorem wp_joinLetGo {Q : Unit → Shared → Prop} (h : Q () s) : ∀ (vs : List Value) (keep : List Value), wpAny M A (Bytes.joinLetGo (vs.map fun v => (v, none)) keep) Q E s := by
  intro vs
  induction vs with
  | nil => intro keep; exact wpAny_pure h
  | cons v r ih =>
    intro keep
    show wpAny M A (letGo (v :: []) _ >>= fun _ => Bytes.joinLetGo (r.map fun v => (v, none)) keep) Q E s
    exact wpAny_bind (wpAny_letGo (ih keep))
end
theorem onHeap_bytes (l : List (Array UInt8 × Tok)) : ((bytesValues l).map fun v => (v, (none : Option Value))).any (fun x => x.1.onHeap) = false := by
  induction l with
  | nil => rfl
  | cons p r ih => exact ih
section
variable {b : Array UInt8} {t u : Tok} {a : Addr} {n : Nat}
theorem meets_join {l : List (Array UInt8 × Tok)} : Meets («bytes.join» ⟨[.bytes #[] t, .ref a], []⟩) (fun _ R s => s.heap.get? a = some (listOf (bytesValues l).toArray n) ∧ 2 ≤ l.length ∧ (l.map fun p => p.1.toList).flatten.length ≤ sizeLine ∧
   ∀ t' k, R (.ok (.ret (.bytes ((l.map fun p => p.1.toList).flatten).toArray t'))) { s with toks := k }) := by
  refine .of_wp fun prog w A R s hS => ?_
  obtain ⟨ho, hl, hsz, h⟩ := hS
  show wpAny _ _ (selfAndOne _ _ >>= fun r => _) _ _ s
  refine wpAny_bind (wpAny_of_eq (a := (.bytes #[] t, .ref a)) rfl ?_)
  show wpAny _ _ (Bytes.joinItems (.ref a) >>= fun r => _) _ _ s
  refine wpAny_bind ?_
  unfold Bytes.joinItems
  refine wpAny_bind (wpAny_typeOf ⟨_, ho, rfl⟩ ?_)
  refine wpAny_ite (KBc.ite_yes rfl ?_)
  refine wpAny_pure ?_
  refine wpAny_bind (wp_seqItems ho rfl ?_)
  refine wpAny_ite (KBc.ite_yes rfl ?_)
  obtain ⟨p0, p1, r, rfl⟩ : ∃ p0 p1 r, l = p0 :: p1 :: r := by
    match l, hl with
    | p0 :: p1 :: r, _ => exact ⟨p0, p1, r, rfl⟩
  show wpAny _ _ (forIn [:_] ((#[] : Array (Array UInt8)), ([] : List (Value × Option Value))) _ >>= _) _ _ s
  refine wpAny_bind ?_
  rw [Std.Legacy.Range.forIn_eq_forIn_range']
  simp only [Std.Legacy.Range.size, Nat.sub_zero, Nat.add_sub_cancel, Nat.div_one]
  generalize hl' : p0 :: p1 :: r = l at *
  have hlen : (bytesValues l).toArray.size = l.length := by simp [bytesValues]
  refine wpAny_forIn_list _
      (fun rest (st : Array (Array UInt8) × List (Value × Option Value)) s' => ∃ i, s' = s ∧ rest = List.range' i (l.length - i) ∧ i ≤ l.length ∧ st.1 = ((l.take i).map (·.1)).toArray ∧ st.2 = (bytesValues (l.take i)).map fun v => (v, none))
      _ ?_ ?_ _ _ ⟨0, rfl, by rw [hlen, Nat.sub_zero], Nat.zero_le _, rfl, rfl⟩
  · rintro x rest ⟨pa, ta⟩ s' ⟨i, rfl, hr, hi, h1, h2⟩
    dsimp only at h1 h2
    subst h1 h2
    have hlt : i < l.length := by
      rcases Nat.lt_or_ge i l.length with h | h
      · exact h
      · rw [Nat.sub_eq_zero_of_le h] at hr; simp at hr
    obtain ⟨rfl, hrest⟩ : x = i ∧ rest = List.range' (i + 1) (l.length - (i + 1)) := by
      have e : l.length - i = (l.length - (i + 1)) + 1 := by omega
      rw [e, List.range'_succ] at hr
      injection hr with h1 h2
      exact ⟨h1, h2⟩
    dsimp only
    refine wpAny_bind (wp_seqItems ho rfl ?_)
    dsimp only
    have hg : (bytesValues l).toArray.getD x Value.none = .bytes l[x].1 l[x].2 := by
      unfold bytesValues
      simp [Array.getD, hlt]
    rw [hg]
    refine wpAny_ite ?_
    rw [onHeap_bytes]
    refine KBy.ite_no (by decide) ?_
    refine wpAny_bind (wpAny_holding (wpAny_of_eq take_quiet ?_))
    dsimp only
    refine wpAny_bind (wp_seqItems ho rfl ?_)
    dsimp only
    refine wpAny_ite (KBy.ite_no (by simp) ?_)
    refine wpAny_pure ⟨x + 1, rfl, hrest, hlt, ?_, ?_⟩
    · dsimp only
      rw [List.take_add_one, List.getElem?_eq_getElem hlt]
      simp
      rw [List.take_add_one, List.getElem?_map, List.getElem?_eq_getElem hlt]
      rfl
    · dsimp only
      unfold bytesValues
      rw [List.take_add_one, List.getElem?_eq_getElem hlt]
      simp
      rw [List.take_add_one, List.getElem?_map, List.getElem?_eq_getElem hlt]
      rfl
  · rintro ⟨pa, ta⟩ s' ⟨i, rfl, hr, hi, h1, h2⟩
    dsimp only at h1 h2
    subst h1 h2
    have hi' : i = l.length := by
      have : (List.range' i (l.length - i)).length = 0 := by rw [← hr]; rfl
      simp at this; omega
    subst hi'
    rw [List.take_length]
    dsimp only
    refine wpAny_bind (wpAny_of_eq (a := (#[] : Array UInt8)) rfl ?_)
    have hj : Bytes.joined #[] (l.map (·.1)) = (l.map fun p => p.1.toList).flatten.toArray := by
      rw [joined_nil, List.map_map]
      rfl
    have hsum : ∀ (xs : List (Array UInt8)) (k : Nat), xs.foldl (fun x1 x2 => x1 + x2.size) k = k + (xs.map (·.toList)).flatten.length := by
      intro xs
      induction xs with
      | nil => intro k; simp
      | cons x r ih => intro k; rw [List.foldl_cons, ih]; simp; omega
    refine wpAny_ite (KBy.ite_no ?_ ?_)
    · rw [← Array.foldl_toList, hsum, List.map_map]
      show ¬ (decide (_ > sizeLine) = true)
      have e : (List.map ((fun x => x.toList) ∘ fun x : Array UInt8 × Tok => x.fst) l) = l.map fun p => p.1.toList := rfl
      simp only [Array.size_empty, Nat.zero_mul, Nat.zero_add, e, decide_eq_true_eq]
      exact Nat.not_lt_of_le hsz
    · refine wpAny_bind ?_
      show wpAny _ _ (mkBytes (Bytes.joined #[] (l.map (·.1)))) _ _ s'
      rw [hj]
      refine wpAny_mkBytes ?_ (by simpa using hsz)
      refine wpAny_bind (wpAny_holding (wpAny_point ?_))
      exact wpAny_bind (wp_joinLetGo (wpAny_pure ⟨_, rfl, h _ _⟩) _ _)
end
section
variable {prog : Program} {w : World} {A : Around} {E : Value → Shared → Prop} {s : Shared} {t : Tok} {a : Addr} {n : Nat} {l : List (Array UInt8 × Tok)}
theorem join {Q : Value → Shared → Prop} (ho : s.heap.get? a = some (listOf (bytesValues l).toArray n)) (hl : 2 ≤ l.length) (hsz : (l.map fun p => p.1.toList).flatten.length ≤ sizeLine)
    (h : ∀ t' k, Q (.bytes ((l.map fun p => p.1.toList).flatten).toArray t') { s with toks := k }) : wpAny (model prog w) A (call (.builtin "bytes.join") [.bytes #[] t, .ref a]) Q E s :=
  call_meets slot_join (typeIs_bytes _ _ _) entry_join (args_join _ _) meets_join ⟨ho, hl, hsz, h⟩
end
end BR
end Mine
namespace Mine
open PySem PySem.W PyProof.Rows PySem.Spec
namespace BR
open PySem.Builtin
open PySem.NumText
/-- the signs that write a hexadecimal digit, and their worth -/
def hexCodes : List Nat := [48, 49, 50, 51, 52, 53, 54, 55, 56, 57, 97, 98, 99, 100, 101, 102, 65, 66, 67, 68, 69, 70]
def hexVal (c : Nat) : Nat := if c ≤ 57 then c - 48 else if c ≤ 70 then c - 55 else c - 87
theorem hex_facts : ∀ a ∈ hexCodes, ∀ b ∈ hexCodes, sign ([a, b].dropWhile blank) = (false, [a, b]) ∧ based 16 [a, b] = (16, false, [a, b]) ∧ digits? 16 (([a, b].reverse.dropWhile blank).reverse) = some #[hexVal a, hexVal b] ∧ [a, b].takeWhile (· != 0) = [a, b] := by decide +kernel
theorem read_hex {a b : Nat} (ha : a ∈ hexCodes) (hb : b ∈ hexCodes) : (int_private% "readNumeral") 0 16 [a, b] = (int_private% "Numeral.value") ((hexVal a * 16 + hexVal b : Nat) : Int) := by
  obtain ⟨h1, h2, h3, _⟩ := hex_facts a ha b hb
  refine (readNumeral_eq 0 16 [a, b]).trans ?_
  rw [h1]
  dsimp only
  rw [h2]
  dsimp only
  rw [h3]
  show (int_private% "Numeral.value") ((((0 * 16 + hexVal a) * 16 + hexVal b : Nat)) : Int) = _
  rw [Nat.zero_mul, Nat.zero_add]
theorem hex_low : ∀ a ∈ hexCodes, a < 128 := by decide
theorem newCall2 (a b : Value) : checkBuiltinCall "int.__new__" ⟨[.type "int", a, b], []⟩ = pure () := by kernel_rfl
theorem wp_text16 {M : Model} {A : Around} {E : Value → Shared → Prop} {s : Shared} {Q : Value → Shared → Prop} {v : Value} {text : List Nat} {n : Int}
    (hs : (text.takeWhile (· != 0)).length ≤ 640) (hr : (int_private% "readNumeral") 0 16 (text.takeWhile (· != 0)) = (int_private% "Numeral.value") n)
    (ha : ((text.takeWhile (· != 0)).length == text.length) = true) (h : Q (.int n s.toks) { s with toks := s.toks + 1 }) :
    wpAny M A ((int_private% "intFromText") v text 16) Q E s := by
  obtain ⟨hp, g, d, tk, os⟩ := s
  repeat (any_goals (first
    | assumption
    | (with_reducible refine wpAny_ite_true (decide_eq_true hs) ?_)
    | (with_reducible refine wpAny_ite_true (decide_eq_true ha) ?_)
    | wp_step))
  all_goals (try rw [hr])
  all_goals (try dsimp only)
  repeat (any_goals (first
    | assumption
    | (with_reducible refine wpAny_ite_true (decide_eq_true hs) ?_)
    | (with_reducible refine wpAny_ite_true (decide_eq_true ha) ?_)
    | wp_step))
theorem gives_hex {a b : Nat} {u v : Tok} (ha : a ∈ hexCodes) (hb : b ∈ hexCodes) : Gives (Builtin.«int.__new__» ⟨[.type "int", .str ⟨#[a, b]⟩ u, .int 16 v], []⟩) (.int ((hexVal a * 16 + hexVal b : Nat) : Int)) :=
  .of_wp fun M A E s Q h => by
    obtain ⟨hp, g, d, tk, os⟩ := s
    have f1 := F.conv_sub_int
    have f2 := F.madeHere_int
    have hk := KIN.Hid.mk (read_hex ha hb)
    have ht := (hex_facts a ha b hb).2.2.2
    have hidx : Int.intIndex "int.__new__" (.int 16 v) = pure 16 := by kernel_rfl
    have hl : (if (⟨#[a, b]⟩ : Str).cps.all (· < 128) then (⟨#[a, b]⟩ : Str).cps.toList else Unicode.numberText (⟨#[a, b]⟩ : Str).cps.toList) = [a, b] := by
      rw [if_pos]
      simp [hex_low a ha, hex_low b hb]
    have hnum : (int_private% "numeralText?") (.str ⟨#[a, b]⟩ u) = pure (some [a, b]) := by
      show (pure (some (if (⟨#[a, b]⟩ : Str).cps.all (· < 128) then (⟨#[a, b]⟩ : Str).cps.toList else Unicode.numberText (⟨#[a, b]⟩ : Str).cps.toList)) : Sem (Option (List Nat))) = _
      rw [hl]
    repeat (any_goals (first | assumption | wp_step))
    all_goals rw [ht, show Int.toNat 16 = 16 from rfl, hk.out]
    all_goals dsimp only
    all_goals refine wpAny_ite (KBc.ite_yes rfl ?_)
    repeat (any_goals (first | assumption | wp_step))
    all_goals exact ⟨_, rfl, h⟩
section
variable {prog : Program} {w : World} {A : Around} {E : Value → Shared → Prop} {s : Shared} {Q : Value → Shared → Prop} {t u : Tok} {a b : Nat}
theorem typeCall2 (a b : Value) : checkTypeCall "int" ⟨[a, b], []⟩ = pure () := by kernel_rfl
theorem initArgs (o a b : Value) : argsOk "object.__init__" ⟨[o, a, b], []⟩ := by unfold argsOk; kernel_rfl
theorem int16 (ha : a ∈ hexCodes) (hb : b ∈ hexCodes) (h : Q (.int ((hexVal a * 16 + hexVal b : Nat) : Int) s.toks) { s with toks := s.toks + 1 }) : wpAny (model prog w) A (call (.type "int") [.str ⟨#[a, b]⟩ t, .int 16 u]) Q E s :=
  callType_new F.called_int F.newNe_int (typeCall2 _ _) (newCall2 _ _) (fun obj => initArgs _ _ _) F.entry_int_new (gives_hex ha hb).meets (show (Made.int _).post _ s from ⟨rfl, h⟩)
end
end BR
end Mine
namespace Mine
open PySem PySem.W PyProof.Rows PySem.Spec
namespace BR
open PySem.Builtin
def splitPct : List UInt8 → List (List UInt8)
  | [] => [[]]
  | c :: r => if c = 37 then [] :: splitPct r else match splitPct r with
    | [] => [[c]]
    | p :: ps => (c :: p) :: ps
theorem splitPct_ne (l : List UInt8) : splitPct l ≠ [] := by
  cases l with
  | nil => exact List.cons_ne_nil _ _
  | cons c r =>
    unfold splitPct
    split
    · exact List.cons_ne_nil _ _
    · split <;> exact List.cons_ne_nil _ _
/-- where the sign stands, counted from k -/
def pos : List UInt8 → Nat → List Nat
  | [], _ => []
  | c :: r, k => if c = 37 then k :: pos r (k + 1) else pos r (k + 1)
theorem pos_ge : ∀ (l : List UInt8) (k : Nat), ∀ i ∈ pos l k, k ≤ i
  | [], _, _, h => nomatch h
  | c :: r, k, i, h => by
    unfold pos at h
    split at h
    · rcases List.mem_cons.mp h with rfl | h
      · exact Nat.le_refl _
      · exact Nat.le_of_succ_le (pos_ge r (k + 1) i h)
    · exact Nat.le_of_succ_le (pos_ge r (k + 1) i h)
theorem pos_le : ∀ (l : List UInt8) (k : Nat), (pos l k).length ≤ l.length
  | [], _ => Nat.le_refl _
  | c :: r, k => by
    unfold pos
    have := pos_le r (k + 1)
    split
    · simp; omega
    · simp; omega
theorem extract_one {b : Array UInt8} {i : Nat} (hi : i < b.size) : (b.extract i (i + 1) == #[37]) = decide (b.toList[i]'(by simpa using hi) = 37) := by
  have e : b.extract i (i + 1) = #[b.toList[i]'(by simpa using hi)] := by
    apply Array.ext'
    rw [Array.toList_extract]
    show List.extract b.toList i (i + 1) = _
    rw [List.extract_eq_take_drop, Nat.add_sub_cancel_left, List.drop_eq_getElem_cons (by simpa using hi)]
    rfl
  rw [e]
  by_cases h : b.toList[i]'(by simpa using hi) = 37
  · rw [h]; rfl
  · rw [decide_eq_false h]
    refine beq_eq_false_iff_ne.mpr fun q => h ?_
    have := congrArg Array.toList q
    simpa using this
theorem occ_fold (b : Array UInt8) : ∀ (n k : Nat) (acc : List Nat × Nat), n + k = b.size → acc.2 ≤ k →
    ((List.range' k n).foldl (fun (acc : List Nat × Nat) (i : Nat) => if (decide (i ≥ acc.2) && b.extract i (i + 1) == #[37]) = true then (i :: acc.1, i + 1) else acc) acc).1.reverse = acc.1.reverse ++ pos (b.toList.drop k) k := by
  intro n
  induction n with
  | zero =>
    intro k acc hk _
    have : b.toList.drop k = [] := List.drop_eq_nil_iff.mpr (by simp; omega)
    rw [this]
    simp [pos]
  | succ n ih =>
    intro k acc hk ha
    have hi : k < b.size := by omega
    rw [List.range'_succ, List.foldl_cons, List.drop_eq_getElem_cons (by simpa using hi)]
    rw [extract_one hi]
    unfold pos
    by_cases h : b.toList[k]'(by simpa using hi) = 37
    · rw [decide_eq_true h, decide_eq_true (show k ≥ acc.2 from ha), if_pos h, Bool.and_self, if_pos (rfl : true = true), ih (k + 1) (k :: acc.1, k + 1) (by omega) (Nat.le_refl _)]
      simp
    · rw [decide_eq_false h, Bool.and_false, if_neg h, if_neg Bool.false_ne_true, ih (k + 1) acc (by omega) (by omega)]
theorem occ_eq (b : Array UInt8) : Bytes.occurrences b #[37] 0 b.size = pos b.toList 0 := by
  have := occ_fold b b.size 0 ([], 0) (by omega) (Nat.le_refl _)
  unfold Bytes.occurrences
  have e : ((List.range (b.size + 1 - (0 + (#[37] : Array UInt8).size))).map (· + 0)) = List.range' 0 b.size := by
    have h1 : b.size + 1 - (0 + (#[37] : Array UInt8).size) = b.size := by show b.size + 1 - (0 + 1) = _; omega
    rw [h1, List.range_eq_range']
    simp
  rw [e]
  rw [List.drop_zero] at this
  exact this
theorem between_fold (b : Array UInt8) : ∀ (n k last : Nat) (ps : Array (Array UInt8)), n + k = b.size → last ≤ k →
    (fun r : Array (Array UInt8) × Nat => (r.1.push (b.extract r.2 b.size)).toList) ((pos (b.toList.drop k) k).foldl (fun (x : Array (Array UInt8) × Nat) p => (x.1.push (b.extract x.2 p), p + 1)) (ps, last)) =
      ps.toList ++ (match splitPct (b.toList.drop k) with | [] => [] | p :: r => (((b.toList.take k).drop last ++ p).toArray :: r.map List.toArray)) := by
  intro n
  induction n with
  | zero =>
    intro k last ps hk hl
    have : b.toList.drop k = [] := List.drop_eq_nil_iff.mpr (by simp; omega)
    rw [this]
    simp only [pos, splitPct, List.foldl_nil, List.map_nil, Array.toList_push, List.append_nil]
    congr 2
    apply Array.ext'
    rw [Array.toList_extract]
    show List.extract b.toList last b.size = _
    rw [List.extract_eq_take_drop, List.take_of_length_le (l := b.toList) (by simp; omega), List.take_of_length_le (by simp)]
  | succ n ih =>
    intro k last ps hk hl
    have hi : k < b.toList.length := by simp; omega
    have ht : b.toList.take (k + 1) = b.toList.take k ++ [b.toList[k]] := by rw [List.take_add_one, List.getElem?_eq_getElem hi]; rfl
    rw [List.drop_eq_getElem_cons hi]
    unfold pos splitPct
    by_cases h : b.toList[k] = 37
    · rw [if_pos h, if_pos h, List.foldl_cons, ih (k + 1) (k + 1) _ (by omega) (Nat.le_refl _)]
      have e1 : (b.toList.take (k + 1)).drop (k + 1) = [] := List.drop_eq_nil_iff.mpr (by simp; omega)
      have e2 : b.extract last k = ((b.toList.take k).drop last).toArray := by
        apply Array.ext'
        rw [Array.toList_extract]
        show List.extract b.toList last k = _
        rw [List.extract_eq_take_drop, List.drop_take]
      rw [e1, e2]
      cases hq : splitPct (b.toList.drop (k + 1)) with
      | nil => exact absurd hq (splitPct_ne _)
      | cons p r => simp
    · rw [if_neg h, if_neg h, ih (k + 1) last _ (by omega) (by omega)]
      cases hq : splitPct (b.toList.drop (k + 1)) with
      | nil => exact absurd hq (splitPct_ne _)
      | cons p r =>
        have e1 : (b.toList.take (k + 1)).drop last = (b.toList.take k).drop last ++ [b.toList[k]] := by
          rw [ht, List.drop_append_of_le_length (by simp; omega)]
        rw [e1]
        simp
theorem parts_eq (b : Array UInt8) : parts b #[37] = (splitPct b.toList).map List.toArray := by
  have h0 := between_fold b b.size 0 0 #[] (by omega) (Nat.le_refl _)
  unfold parts
  rw [occ_eq]
  have ht : (pos b.toList 0).take (b.size + 1) = pos b.toList 0 := List.take_of_length_le (by have := pos_le b.toList 0; simp at this; omega)
  rw [ht]
  have e : Bytes.between b (#[37] : Array UInt8).size (pos b.toList 0) = (splitPct b.toList).map List.toArray := by
    unfold Bytes.between
    have h1 : (#[37] : Array UInt8).size = 1 := rfl
    rw [h1]
    simp only [List.drop_zero] at h0
    refine Eq.trans ?_ (h0.trans ?_)
    · rfl
    · cases hq : splitPct b.toList with
      | nil => exact absurd hq (splitPct_ne _)
      | cons p r => simp
  by_cases hp : (pos b.toList 0).isEmpty = true
  · rw [if_pos hp, ← e, List.isEmpty_iff.mp hp]
    unfold Bytes.between
    simp
  · rw [if_neg hp, e]
theorem splitPct_len : ∀ (l : List UInt8), (splitPct l).length ≤ l.length + 1
  | [] => Nat.le_refl _
  | c :: r => by
    have := splitPct_len r
    unfold splitPct
    split
    · simp; omega
    · split <;> simp_all <;> omega
theorem splitPct_sizes : ∀ (l : List UInt8), ∀ p ∈ splitPct l, p.length ≤ l.length
  | [], p, h => by
    rw [List.mem_singleton.mp h]
    exact Nat.le_refl _
  | c :: r, p, h => by
    have ih := splitPct_sizes r
    unfold splitPct at h
    split at h
    · rcases List.mem_cons.mp h with rfl | h
      · simp
      · have := ih p h; simp; omega
    · split at h
      · rw [List.mem_singleton.mp h]; simp
      · rename_i q ps hq
        rcases List.mem_cons.mp h with rfl | h
        · have := ih q (by rw [hq]; exact .head _); simp; omega
        · have := ih p (by rw [hq]; exact .tail _ h); simp; omega
end BR
end Mine
namespace Mine
open PySem PySem.W PyProof.Rows
abbrev Ar (hv : Option Value) (dp un : Nat) (gd : Option (List Code)) (cn : Str) (cs : Scope) (L a : Addr) (ccd : Value) (cl : List (Str × Addr)) (outer : List Env) : Around := { handled := hv, depth := dp, frames := some (envX cn cs L a ccd cl :: outer), guards := gd, units := un }
/-- what the walk asks of the caller's place, in one word -/
structure At (n : Nat) (w : World) (loose : List Str) (mean : ExcName → Option Value) (mg mb : Str → Option Value) (dp un : Nat) (cs : Scope) (outer : List Env) (A₀ : Around) (base h₀ : Heap) : Prop where
  B : Below A₀ base outer h₀
  X : (tp.heap_39 w.params).In h₀
  T : Top tp.view_39 loose mean mg mb h₀
  k : cs.kind = .function
  d : dp + 10 * n < recursionLimit
  u : un + 80 * n < cLine

def hexSet : Array UInt8 := #[48, 49, 50, 51, 52, 53, 54, 55, 56, 57, 97, 98, 99, 100, 101, 102, 65, 66, 67, 68, 69, 70]
theorem hexSet_mem {c : UInt8} (h : hexSet.contains c = true) : c.toNat ∈ BR.hexCodes := by
  have := Array.contains_iff_mem.mp h
  revert this
  unfold hexSet BR.hexCodes
  intro hm
  simp only [List.mem_toArray, List.mem_cons, List.not_mem_nil, or_false] at hm
  rcases hm with h | h | h | h | h | h | h | h | h | h | h | h | h | h | h | h | h | h | h | h | h | h <;> subst h <;> decide
theorem strip_le (b c : Array UInt8) : (BR.stripped b c).length ≤ b.size := by
  have h1 := (List.dropWhile_sublist (l := b.toList) c.contains).length_le
  have h2 := (List.dropWhile_sublist (l := (b.toList.dropWhile c.contains).reverse) c.contains).length_le
  unfold BR.stripped
  rw [List.length_reverse] at h2 ⊢
  have h0 : b.toList.length = b.size := Array.length_toList
  omega
theorem dropWhile_nil {α : Type} {p : α → Bool} : ∀ {l : List α}, l.dropWhile p = [] → ∀ x ∈ l, p x = true
  | [], _, _, hx => nomatch hx
  | a :: r, h, x, hx => by
    rw [List.dropWhile_cons] at h
    split at h
    · rename_i ha
      rcases List.mem_cons.mp hx with rfl | hx
      · exact ha
      · exact dropWhile_nil h x hx
    · cases h
theorem all_of_strip {b c : Array UInt8} (hs : (BR.stripped b c).length = 0) : ∀ x ∈ b.toList, c.contains x = true := by
  unfold BR.stripped at hs
  rw [List.length_reverse] at hs
  have h1 : (b.toList.dropWhile c.contains).reverse.dropWhile c.contains = [] := List.eq_nil_of_length_eq_zero hs
  have h2 := dropWhile_nil h1
  have h3 : b.toList.dropWhile c.contains = [] := by
    cases e : b.toList.dropWhile c.contains with
    | nil => rfl
    | cons y r =>
      exfalso
      have hy := h2 y (by rw [List.mem_reverse, e]; exact .head _)
      have hne : b.toList.dropWhile c.contains ≠ [] := by rw [e]; exact List.cons_ne_nil _ _
      have := List.head_dropWhile_not c.contains hne
      simp only [e, List.head_cons] at this
      rw [hy] at this
      cases this
  exact dropWhile_nil h3
theorem hex_of_strip {b : Array UInt8} (h2 : b.size = 2) (hs : (BR.stripped b hexSet).length = 0) : ∃ u v, b = #[u, v] ∧ u.toNat ∈ BR.hexCodes ∧ v.toNat ∈ BR.hexCodes := by
  obtain ⟨l⟩ := b
  match l, h2 with
  | [u, v], _ =>
    have := all_of_strip hs
    exact ⟨u, v, rfl, hexSet_mem (this u (.head _)), hexSet_mem (this v (.tail _ (.head _)))⟩
/-- does the sign with that number stand in the text -/
def inD (D : Str) (n : Nat) : Bool := !(Builtin.Str.occurrences D ⟨#[n]⟩ 0 D.length 1).isEmpty
def delimsOf (mp : Nat) : Str :=
  if mp = 55 then Str.ofString ":/?#[]@" else if mp = 58 then Str.ofString "/?#[]" else if mp = 61 then Str.ofString "#[]&=" else if mp = 64 then Str.ofString "#[]&" else if mp = 67 then Str.ofString "#[]" else Str.ofString ""
def unres : Str := Str.ofString "~-._0123456789ABCDEFGHIJKLMNOPQRSTUVWXYZabcdefghijklmnopqrstuvwxyz"
def okMap (mp n : Nat) : Bool := if mp = 70 then inD unres n else if mp = 52 then !inD (delimsOf mp) n else !inD (delimsOf mp) n && !((⟨#[n]⟩ : Str) == Str.ofString "%")
def hexPair (b : Array UInt8) : Option Nat := if b.size = 2 ∧ (BR.stripped b hexSet).length = 0 then some (BR.hexVal (b.getD 0 0).toNat * 16 + BR.hexVal (b.getD 1 0).toNat) else none
def has (mp : Nat) (b : Array UInt8) : Bool := match hexPair b with
  | some n => okMap mp n
  | none => false
theorem has_no1 {mp : Nat} {b : Array UInt8} (h : (b.size : Int) ≠ 2) : has mp b = false := by
  unfold has hexPair
  rw [if_neg (fun e => h (by omega))]
theorem has_no2 {mp : Nat} {b : Array UInt8} (h : 0 < (BR.stripped b hexSet).length) : has mp b = false := by
  unfold has hexPair
  rw [if_neg (fun e => by omega)]
theorem has_yes {mp : Nat} {x y : UInt8} (h : ¬ 0 < (BR.stripped #[x, y] hexSet).length) : has mp #[x, y] = okMap mp (BR.hexVal x.toNat * 16 + BR.hexVal y.toNat) := by
  unfold has hexPair
  rw [if_pos ⟨rfl, by omega⟩]
  rfl
theorem ok52 {n : Nat} {c : Bool} (hq : (Builtin.Str.occurrences (Str.ofString "") ⟨#[((n : Nat) : Int).toNat]⟩ 0 (Str.ofString "").length 1).isEmpty = c) : okMap 52 n = c := by
  have hq' : (Builtin.Str.occurrences (Str.ofString "") ⟨#[n]⟩ 0 (Str.ofString "").length 1).isEmpty = c := hq
  have e : okMap 52 n = !!(Builtin.Str.occurrences (Str.ofString "") ⟨#[n]⟩ 0 (Str.ofString "").length 1).isEmpty := rfl
  rw [e, hq', Bool.not_not]
theorem okD {mp n : Nat} {D : Str} {c : Bool} (hD : delimsOf mp = D) (h70 : mp ≠ 70) (h52 : mp ≠ 52) (hq : (Builtin.Str.occurrences D ⟨#[((n : Nat) : Int).toNat]⟩ 0 D.length 1).isEmpty = c) : okMap mp n = (c && ((⟨#[((n : Nat) : Int).toNat]⟩ : Str) != Str.ofString "%")) := by
  have hq' : (Builtin.Str.occurrences D ⟨#[n]⟩ 0 D.length 1).isEmpty = c := hq
  unfold okMap inD
  rw [if_neg h70, if_neg h52, hD, hq', Bool.not_not]
  rfl
theorem ret_b {h₀ h' : Heap} {L : Addr} {m : Str → Option Value} {news : List (Addr × Obj)} {s : Shared} {Q : Value → Shared → Prop} {x y : Bool} {tk' : Nat}
    (hret : ∀ (h' : Heap) (tk' : Nat), Fr h₀ L h' m → News h₀ L h' news → Q (.bool x) { s with heap := h', toks := tk' }) (e : x = y) (F : Fr h₀ L h' m) (N : News h₀ L h' news) : Q (.bool y) { s with heap := h', toks := tk' } := by
  subst e
  exact hret h' tk' F N
theorem truthy_stripped {prog : Program} {w : World} {A : Around} {E : Value → Shared → Prop} {s : Shared} {l : List UInt8} {t : Tok} {Q : Bool → Shared → Prop} (hz : l.length ≤ 1000) (h : Q (decide (0 < l.length)) { s with toks := s.toks + 1 + 1 }) :
    wpAny (model prog w) A (truthy (.bytes l.toArray t)) Q E s :=
  KBw.truthy_K (b := l.toArray) (ks := l.map fun c => (c.toNat : Int)) rfl (by rw [List.length_map]; omega) (by rw [List.length_map]; exact h)
local macro_rules | `(tactic| walk_at "getMethod bytes") => `(tactic| (k_here; first | (with_reducible refine BR.method_strip ?_) | (with_reducible refine BR.method_upper ?_) | (with_reducible refine BR.method_split ?_) | (with_reducible refine BR.method_join ?_)))
local macro_rules | `(tactic| walk_at "call builtin:bytes.strip") => `(tactic| (k_here; (with_reducible show wpAny _ _ (call (Value.builtin "bytes.strip") [Value.bytes _ _, Value.bytes _ _]) _ _ _); (refine BR.strip (Nat.le_trans (strip_le _ _) (by rw [sizeLine_eq]; omega)) ?_); intro _ _))
theorem hexVal_lt : ∀ c ∈ BR.hexCodes, BR.hexVal c < 16 := by decide
theorem decode_two {prog : Program} {w : World} {A : Around} {E : Value → Shared → Prop} {s : Shared} {a b : UInt8} {t u : Tok} {Q : Value → Shared → Prop} (ha : a.toNat ∈ BR.hexCodes) (hb : b.toNat ∈ BR.hexCodes) (h : ∀ t' k, Q (.str ⟨#[a.toNat, b.toNat]⟩ t') { s with toks := k }) :
    wpAny (model prog w) A (call (.builtin "bytes.decode") [.bytes #[a, b] t, .str (PySem.Str.ofString "ascii") u]) Q E s :=
  BR.decodeA (BR.Decodes.ascii (by intro c hc; simp at hc; rcases hc with rfl | rfl; exact BR.hex_low _ ha; exact BR.hex_low _ hb) (by simp [sizeLine_eq])) (by simp) (by simp [sizeLine_eq]) h
theorem decode_hex {prog : Program} {w : World} {A : Around} {E : Value → Shared → Prop} {s : Shared} {b : Array UInt8} {t u : Tok} {Q : Value → Shared → Prop} (h2 : (b.size : Int) = 2) (hs : ¬ 0 < (BR.stripped b hexSet).length)
    (h : ∀ x y t' k, b = #[x, y] → x.toNat ∈ BR.hexCodes → y.toNat ∈ BR.hexCodes → BR.hexVal x.toNat < 16 → BR.hexVal y.toNat < 16 → Q (.str ⟨#[x.toNat, y.toNat]⟩ t') { s with toks := k }) :
    wpAny (model prog w) A (call (.builtin "bytes.decode") [.bytes b t, .str (PySem.Str.ofString "ascii") u]) Q E s := by
  obtain ⟨x, y, rfl, hx, hy⟩ := hex_of_strip (b := b) (by omega) (by omega)
  exact decode_two hx hy fun t' k => h x y t' k rfl hx hy (hexVal_lt _ hx) (hexVal_lt _ hy)
local macro_rules | `(tactic| walk_at "call builtin:bytes.decode") => `(tactic| (k_here; (with_reducible show wpAny _ _ (call (Value.builtin "bytes.decode") [Value.bytes _ _, Value.str (PySem.Str.ofString "ascii") _]) _ _ _); (refine decode_hex (by assumption) (by assumption) ?_); intro _ _ _ _ hb' hx1 hx2 hv1 hv2; subst hb'))
local macro_rules | `(tactic| walk_at "call type:int") => `(tactic| (k_here; (with_reducible show wpAny _ _ (call (Value.type "int") [Value.str _ _, Value.int 16 _]) _ _ _); (refine BR.int16 (by assumption) (by assumption) ?_)))
local macro_rules | `(tactic| walk_at "truthy bytes") => `(tactic| (k_here; (with_reducible show wpAny _ _ (truthy (Value.bytes (List.toArray (BR.stripped _ _)) _)) _ _ _); (refine truthy_stripped (Nat.le_trans (strip_le _ _) (by omega)) ?_)))

theorem contains_52 {w : World} {loose : List Str} {mean : ExcName → Option Value} {mg mb : Str → Option Value} {news : List (Addr × Obj)} {b : Array UInt8} {bt : Tok}
  {hv : Option Value} {dp un : Nat} {gd : Option (List Code)} {cn : Str} {cs : Scope} {a : Addr} {ccd : Value} {cl : List (Str × Addr)} {outer : List Env} {A₀ : Around} {base h₀ : Heap} {L : Addr} {m : Str → Option Value} {s : Shared} {Q E : Value → Shared → Prop}
    (P : At 1 w loose mean mg mb dp un cs outer A₀ base h₀) (F : Fr h₀ L s.heap m) (N : News h₀ L s.heap news) (hb : b.size ≤ 100)
    (hret : ∀ (h' : Heap) (tk' : Nat), Fr h₀ L h' m → News h₀ L h' news → Q (.bool (has 52 b)) { s with heap := h', toks := tk' }) :
    wpAny (model Challenge.rw_fe0139_01.row.prog w) (Ar hv dp un gd cn cs L a ccd cl outer) (call (.ref 36) [.ref 52, .bytes b bt]) Q E s := by
  obtain ⟨B, X, T, hk, hdp, hun⟩ := P
  revert X
  k_fill
  intro X
  refine wpAny_call ?_
  k_dflt cell_enter
  k_steps
  · exact ret_b hret (has_no1 (by assumption)) (by k_asm) (by k_asm)
  · exact ret_b hret (has_no2 (by assumption)) (by k_asm) (by k_asm)
  all_goals (refine ret_b hret ((has_yes (by assumption)).trans ?_) (by k_asm) (by k_asm))
  all_goals first | rfl | ((rename (List.isEmpty _ = _) => hq); first | exact ok52 hq | exact (ok52 hq).trans (by rw [hq]; rfl) | exact (okD (mp := 52) rfl (by decide) (by decide) hq).trans rfl | exact (okD (mp := 52) rfl (by decide) (by decide) hq).trans (by rw [hq]; rfl))
theorem contains_55 {w : World} {loose : List Str} {mean : ExcName → Option Value} {mg mb : Str → Option Value} {news : List (Addr × Obj)} {b : Array UInt8} {bt : Tok}
  {hv : Option Value} {dp un : Nat} {gd : Option (List Code)} {cn : Str} {cs : Scope} {a : Addr} {ccd : Value} {cl : List (Str × Addr)} {outer : List Env} {A₀ : Around} {base h₀ : Heap} {L : Addr} {m : Str → Option Value} {s : Shared} {Q E : Value → Shared → Prop}
    (P : At 1 w loose mean mg mb dp un cs outer A₀ base h₀) (F : Fr h₀ L s.heap m) (N : News h₀ L s.heap news) (hb : b.size ≤ 100)
    (hret : ∀ (h' : Heap) (tk' : Nat), Fr h₀ L h' m → News h₀ L h' news → Q (.bool (has 55 b)) { s with heap := h', toks := tk' }) :
    wpAny (model Challenge.rw_fe0139_01.row.prog w) (Ar hv dp un gd cn cs L a ccd cl outer) (call (.ref 36) [.ref 55, .bytes b bt]) Q E s := by
  obtain ⟨B, X, T, hk, hdp, hun⟩ := P
  revert X
  k_fill
  intro X
  refine wpAny_call ?_
  k_dflt cell_enter
  k_steps
  · exact ret_b hret (has_no1 (by assumption)) (by k_asm) (by k_asm)
  · exact ret_b hret (has_no2 (by assumption)) (by k_asm) (by k_asm)
  all_goals (refine ret_b hret ((has_yes (by assumption)).trans ?_) (by k_asm) (by k_asm))
  all_goals first | rfl | ((rename (List.isEmpty _ = _) => hq); first | exact ok52 hq | exact (ok52 hq).trans (by rw [hq]; rfl) | exact (okD (mp := 55) rfl (by decide) (by decide) hq).trans rfl | exact (okD (mp := 55) rfl (by decide) (by decide) hq).trans (by rw [hq]; rfl))
theorem contains_58 {w : World} {loose : List Str} {mean : ExcName → Option Value} {mg mb : Str → Option Value} {news : List (Addr × Obj)} {b : Array UInt8} {bt : Tok}
  {hv : Option Value} {dp un : Nat} {gd : Option (List Code)} {cn : Str} {cs : Scope} {a : Addr} {ccd : Value} {cl : List (Str × Addr)} {outer : List Env} {A₀ : Around} {base h₀ : Heap} {L : Addr} {m : Str → Option Value} {s : Shared} {Q E : Value → Shared → Prop}
    (P : At 1 w loose mean mg mb dp un cs outer A₀ base h₀) (F : Fr h₀ L s.heap m) (N : News h₀ L s.heap news) (hb : b.size ≤ 100)
    (hret : ∀ (h' : Heap) (tk' : Nat), Fr h₀ L h' m → News h₀ L h' news → Q (.bool (has 58 b)) { s with heap := h', toks := tk' }) :
    wpAny (model Challenge.rw_fe0139_01.row.prog w) (Ar hv dp un gd cn cs L a ccd cl outer) (call (.ref 36) [.ref 58, .bytes b bt]) Q E s := by
  obtain ⟨B, X, T, hk, hdp, hun⟩ := P
  revert X
  k_fill
  intro X
  refine wpAny_call ?_
  k_dflt cell_enter
  k_steps
  · exact ret_b hret (has_no1 (by assumption)) (by k_asm) (by k_asm)
  · exact ret_b hret (has_no2 (by assumption)) (by k_asm) (by k_asm)
  all_goals (refine ret_b hret ((has_yes (by assumption)).trans ?_) (by k_asm) (by k_asm))
  all_goals first | rfl | ((rename (List.isEmpty _ = _) => hq); first | exact ok52 hq | exact (ok52 hq).trans (by rw [hq]; rfl) | exact (okD (mp := 58) rfl (by decide) (by decide) hq).trans rfl | exact (okD (mp := 58) rfl (by decide) (by decide) hq).trans (by rw [hq]; rfl))
theorem contains_61 {w : World} {loose : List Str} {mean : ExcName → Option Value} {mg mb : Str → Option Value} {news : List (Addr × Obj)} {b : Array UInt8} {bt : Tok}
  {hv : Option Value} {dp un : Nat} {gd : Option (List Code)} {cn : Str} {cs : Scope} {a : Addr} {ccd : Value} {cl : List (Str × Addr)} {outer : List Env} {A₀ : Around} {base h₀ : Heap} {L : Addr} {m : Str → Option Value} {s : Shared} {Q E : Value → Shared → Prop}
    (P : At 1 w loose mean mg mb dp un cs outer A₀ base h₀) (F : Fr h₀ L s.heap m) (N : News h₀ L s.heap news) (hb : b.size ≤ 100)
    (hret : ∀ (h' : Heap) (tk' : Nat), Fr h₀ L h' m → News h₀ L h' news → Q (.bool (has 61 b)) { s with heap := h', toks := tk' }) :
    wpAny (model Challenge.rw_fe0139_01.row.prog w) (Ar hv dp un gd cn cs L a ccd cl outer) (call (.ref 36) [.ref 61, .bytes b bt]) Q E s := by
  obtain ⟨B, X, T, hk, hdp, hun⟩ := P
  revert X
  k_fill
  intro X
  refine wpAny_call ?_
  k_dflt cell_enter
  k_steps
  · exact ret_b hret (has_no1 (by assumption)) (by k_asm) (by k_asm)
  · exact ret_b hret (has_no2 (by assumption)) (by k_asm) (by k_asm)
  all_goals (refine ret_b hret ((has_yes (by assumption)).trans ?_) (by k_asm) (by k_asm))
  all_goals first | rfl | ((rename (List.isEmpty _ = _) => hq); first | exact ok52 hq | exact (ok52 hq).trans (by rw [hq]; rfl) | exact (okD (mp := 61) rfl (by decide) (by decide) hq).trans rfl | exact (okD (mp := 61) rfl (by decide) (by decide) hq).trans (by rw [hq]; rfl))
theorem contains_64 {w : World} {loose : List Str} {mean : ExcName → Option Value} {mg mb : Str → Option Value} {news : List (Addr × Obj)} {b : Array UInt8} {bt : Tok}
  {hv : Option Value} {dp un : Nat} {gd : Option (List Code)} {cn : Str} {cs : Scope} {a : Addr} {ccd : Value} {cl : List (Str × Addr)} {outer : List Env} {A₀ : Around} {base h₀ : Heap} {L : Addr} {m : Str → Option Value} {s : Shared} {Q E : Value → Shared → Prop}
    (P : At 1 w loose mean mg mb dp un cs outer A₀ base h₀) (F : Fr h₀ L s.heap m) (N : News h₀ L s.heap news) (hb : b.size ≤ 100)
    (hret : ∀ (h' : Heap) (tk' : Nat), Fr h₀ L h' m → News h₀ L h' news → Q (.bool (has 64 b)) { s with heap := h', toks := tk' }) :
    wpAny (model Challenge.rw_fe0139_01.row.prog w) (Ar hv dp un gd cn cs L a ccd cl outer) (call (.ref 36) [.ref 64, .bytes b bt]) Q E s := by
  obtain ⟨B, X, T, hk, hdp, hun⟩ := P
  revert X
  k_fill
  intro X
  refine wpAny_call ?_
  k_dflt cell_enter
  k_steps
  · exact ret_b hret (has_no1 (by assumption)) (by k_asm) (by k_asm)
  · exact ret_b hret (has_no2 (by assumption)) (by k_asm) (by k_asm)
  all_goals (refine ret_b hret ((has_yes (by assumption)).trans ?_) (by k_asm) (by k_asm))
  all_goals first | rfl | ((rename (List.isEmpty _ = _) => hq); first | exact ok52 hq | exact (ok52 hq).trans (by rw [hq]; rfl) | exact (okD (mp := 64) rfl (by decide) (by decide) hq).trans rfl | exact (okD (mp := 64) rfl (by decide) (by decide) hq).trans (by rw [hq]; rfl))
theorem contains_67 {w : World} {loose : List Str} {mean : ExcName → Option Value} {mg mb : Str → Option Value} {news : List (Addr × Obj)} {b : Array UInt8} {bt : Tok}
  {hv : Option Value} {dp un : Nat} {gd : Option (List Code)} {cn : Str} {cs : Scope} {a : Addr} {ccd : Value} {cl : List (Str × Addr)} {outer : List Env} {A₀ : Around} {base h₀ : Heap} {L : Addr} {m : Str → Option Value} {s : Shared} {Q E : Value → Shared → Prop}
    (P : At 1 w loose mean mg mb dp un cs outer A₀ base h₀) (F : Fr h₀ L s.heap m) (N : News h₀ L s.heap news) (hb : b.size ≤ 100)
    (hret : ∀ (h' : Heap) (tk' : Nat), Fr h₀ L h' m → News h₀ L h' news → Q (.bool (has 67 b)) { s with heap := h', toks := tk' }) :
    wpAny (model Challenge.rw_fe0139_01.row.prog w) (Ar hv dp un gd cn cs L a ccd cl outer) (call (.ref 36) [.ref 67, .bytes b bt]) Q E s := by
  obtain ⟨B, X, T, hk, hdp, hun⟩ := P
  revert X
  k_fill
  intro X
  refine wpAny_call ?_
  k_dflt cell_enter
  k_steps
  · exact ret_b hret (has_no1 (by assumption)) (by k_asm) (by k_asm)
  · exact ret_b hret (has_no2 (by assumption)) (by k_asm) (by k_asm)
  all_goals (refine ret_b hret ((has_yes (by assumption)).trans ?_) (by k_asm) (by k_asm))
  all_goals first | rfl | ((rename (List.isEmpty _ = _) => hq); first | exact ok52 hq | exact (ok52 hq).trans (by rw [hq]; rfl) | exact (okD (mp := 67) rfl (by decide) (by decide) hq).trans rfl | exact (okD (mp := 67) rfl (by decide) (by decide) hq).trans (by rw [hq]; rfl))
theorem contains_70 {w : World} {loose : List Str} {mean : ExcName → Option Value} {mg mb : Str → Option Value} {news : List (Addr × Obj)} {b : Array UInt8} {bt : Tok}
  {hv : Option Value} {dp un : Nat} {gd : Option (List Code)} {cn : Str} {cs : Scope} {a : Addr} {ccd : Value} {cl : List (Str × Addr)} {outer : List Env} {A₀ : Around} {base h₀ : Heap} {L : Addr} {m : Str → Option Value} {s : Shared} {Q E : Value → Shared → Prop}
    (P : At 1 w loose mean mg mb dp un cs outer A₀ base h₀) (F : Fr h₀ L s.heap m) (N : News h₀ L s.heap news) (hb : b.size ≤ 100)
    (hret : ∀ (h' : Heap) (tk' : Nat), Fr h₀ L h' m → News h₀ L h' news → Q (.bool (has 70 b)) { s with heap := h', toks := tk' }) :
    wpAny (model Challenge.rw_fe0139_01.row.prog w) (Ar hv dp un gd cn cs L a ccd cl outer) (call (.ref 36) [.ref 70, .bytes b bt]) Q E s := by
  obtain ⟨B, X, T, hk, hdp, hun⟩ := P
  revert X
  k_fill
  intro X
  refine wpAny_call ?_
  k_dflt cell_enter
  k_steps
  · exact ret_b hret (has_no1 (by assumption)) (by k_asm) (by k_asm)
  · exact ret_b hret (has_no2 (by assumption)) (by k_asm) (by k_asm)
  all_goals (refine ret_b hret ((has_yes (by assumption)).trans ?_) (by k_asm) (by k_asm))
  all_goals first | rfl | ((rename (List.isEmpty _ = _) => hq); first | exact ok52 hq | exact (ok52 hq).trans (by rw [hq]; rfl) | exact (okD (mp := 70) rfl (by decide) (by decide) hq).trans rfl | exact (okD (mp := 70) rfl (by decide) (by decide) hq).trans (by rw [hq]; rfl))
end Mine
namespace Mine
open PySem PySem.W PyProof.Rows
theorem At.less {n k : Nat} {w : World} {loose : List Str} {mean : ExcName → Option Value} {mg mb : Str → Option Value} {dp un : Nat} {cs : Scope} {outer : List Env} {A₀ : Around} {base h₀ : Heap} (P : At n w loose mean mg mb dp un cs outer A₀ base h₀) (h : k ≤ n) : At k w loose mean mg mb dp un cs outer A₀ base h₀ :=
  ⟨P.B, P.X, P.T, P.k, by have := P.d; omega, by have := P.u; omega⟩
theorem hex_of_has {mp : Nat} {b : Array UInt8} (h : has mp b = true) : ∃ x y, b = #[x, y] ∧ x.toNat ∈ BR.hexCodes ∧ y.toNat ∈ BR.hexCodes ∧ hexPair b = some (BR.hexVal x.toNat * 16 + BR.hexVal y.toNat) := by
  unfold has at h
  unfold hexPair at h ⊢
  split at h
  · rename_i n hn
    split at hn
    · rename_i hc
      obtain ⟨x, y, rfl, hx, hy⟩ := hex_of_strip hc.1 hc.2
      exact ⟨x, y, rfl, hx, hy, by rw [if_pos hc]; rfl⟩
    · cases hn
  · cases h
theorem decode_has {mp : Nat} {prog : Program} {w : World} {A : Around} {E : Value → Shared → Prop} {s : Shared} {b : Array UInt8} {t u : Tok} {Q : Value → Shared → Prop} (hh : has mp b = true)
    (h : ∀ x y t' k, b = #[x, y] → x.toNat ∈ BR.hexCodes → y.toNat ∈ BR.hexCodes → BR.hexVal x.toNat < 16 → BR.hexVal y.toNat < 16 → hexPair b = some (BR.hexVal x.toNat * 16 + BR.hexVal y.toNat) → Q (.str ⟨#[x.toNat, y.toNat]⟩ t') { s with toks := k }) :
    wpAny (model prog w) A (call (.builtin "bytes.decode") [.bytes b t, .str (PySem.Str.ofString "ascii") u]) Q E s := by
  obtain ⟨x, y, rfl, hx, hy, hp⟩ := hex_of_has hh
  exact decode_two hx hy fun t' k => h x y t' k rfl hx hy (hexVal_lt _ hx) (hexVal_lt _ hy) hp
local macro_rules | `(tactic| walk_at "call builtin:bytes.decode") => `(tactic| (k_here; (with_reducible show wpAny _ _ (call (Value.builtin "bytes.decode") [Value.bytes _ _, Value.str (PySem.Str.ofString "ascii") _]) _ _ _); (refine decode_has (by assumption) ?_); intro _ _ _ _ hb' hx1 hx2 hv1 hv2 hp; subst hb'))
local macro_rules | `(tactic| walk_at "getMethod bytes") => `(tactic| (k_here; first | (with_reducible refine BR.method_strip ?_) | (with_reducible refine BR.method_upper ?_) | (with_reducible refine BR.method_split ?_) | (with_reducible refine BR.method_join ?_)))
local macro_rules | `(tactic| walk_at "call type:int") => `(tactic| (k_here; (with_reducible show wpAny _ _ (call (Value.type "int") [Value.str _ _, Value.int 16 _]) _ _ _); (refine BR.int16 (by assumption) (by assumption) ?_)))
local macro_rules | `(tactic| walk_at "call ref") => `(tactic| (k_here; (with_reducible show wpAny _ _ (call (Value.ref 36) [Value.ref 52, Value.bytes _ _]) _ _ _); k_dflt (refine' contains_52 ⟨?k1, ?k2, ?k3, ?k4, ?k5, ?k6⟩ ?F ?N ?hb ?_; (case k1 => k_asm); (case F => k_asm); (case N => k_asm); (case k2 => k_asm); (case k3 => k_asm); (case k4 => first | rfl | assumption); (case k5 => ktr_room); (case k6 => ktr_units); (case hb => omega)); intro h' tk' F' N'; (try dsimp only); (try k_fold)))
theorem getitem_52 {w : World} {loose : List Str} {mean : ExcName → Option Value} {mg mb : Str → Option Value} {news : List (Addr × Obj)} {b : Array UInt8} {bt : Tok}
  {dp un : Nat} {gd : Option (List Code)} {cn : Str} {cs : Scope} {a : Addr} {ccd : Value} {cl : List (Str × Addr)} {outer : List Env} {A₀ : Around} {base h₀ : Heap} {L : Addr} {m : Str → Option Value} {s : Shared} {Q E : Value → Shared → Prop}
    (P : At 2 w loose mean mg mb dp un cs outer A₀ base h₀) (F : Fr h₀ L s.heap m) (N : News h₀ L s.heap news) (hb : b.size ≤ 100)
    (hret : ∀ n t h' tk', has 52 b = true → hexPair b = some n → Fr h₀ L h' m → News h₀ L h' news → Q (.bytes #[n.toUInt8] t) { s with heap := h', toks := tk' })
    (hex : ∀ e h' tk' g, has 52 b = false → Fr h₀ L g m → Below (Ar none dp un gd cn cs L a ccd cl outer) base (envX cn cs L a ccd cl :: outer) g → (tp.heap_39 w.params).In g → Top tp.view_39 loose mean mg mb g → RaisedSN base g (envX cn cs L a ccd cl :: outer) e (Value.type "KeyError") news h' → g.UpToSlots h' → E (.ref e) { s with heap := h', toks := tk' }) :
    wpAny (model Challenge.rw_fe0139_01.row.prog w) (Ar none dp un gd cn cs L a ccd cl outer) (call (.ref 43) [.ref 52, .bytes b bt]) Q E s := by
  obtain ⟨B, X, T, hk, hdp, hun⟩ := P
  revert X
  k_fill
  intro X
  refine wpAny_call ?_
  have kd0 : KtsDicts [] base := ktsDicts_nil
  k_dflt cell_enter
  k_steps
  · exact hret _ _ _ _ (by assumption) (by assumption) (by k_asm) (by first | k_asm | exact cb_drop (by assumption) (fun _ hp => .tail _ hp))
  · exact hex _ _ _ _ (by assumption) (by assumption) (by assumption) (by assumption) (by assumption) (by assumption) (by assumption)
local macro_rules | `(tactic| walk_at "call ref") => `(tactic| (k_here; (with_reducible show wpAny _ _ (call (Value.ref 36) [Value.ref 55, Value.bytes _ _]) _ _ _); k_dflt (refine' contains_55 ⟨?k1, ?k2, ?k3, ?k4, ?k5, ?k6⟩ ?F ?N ?hb ?_; (case k1 => k_asm); (case F => k_asm); (case N => k_asm); (case k2 => k_asm); (case k3 => k_asm); (case k4 => first | rfl | assumption); (case k5 => ktr_room); (case k6 => ktr_units); (case hb => omega)); intro h' tk' F' N'; (try dsimp only); (try k_fold)))
theorem getitem_55 {w : World} {loose : List Str} {mean : ExcName → Option Value} {mg mb : Str → Option Value} {news : List (Addr × Obj)} {b : Array UInt8} {bt : Tok}
  {dp un : Nat} {gd : Option (List Code)} {cn : Str} {cs : Scope} {a : Addr} {ccd : Value} {cl : List (Str × Addr)} {outer : List Env} {A₀ : Around} {base h₀ : Heap} {L : Addr} {m : Str → Option Value} {s : Shared} {Q E : Value → Shared → Prop}
    (P : At 2 w loose mean mg mb dp un cs outer A₀ base h₀) (F : Fr h₀ L s.heap m) (N : News h₀ L s.heap news) (hb : b.size ≤ 100)
    (hret : ∀ n t h' tk', has 55 b = true → hexPair b = some n → Fr h₀ L h' m → News h₀ L h' news → Q (.bytes #[n.toUInt8] t) { s with heap := h', toks := tk' })
    (hex : ∀ e h' tk' g, has 55 b = false → Fr h₀ L g m → Below (Ar none dp un gd cn cs L a ccd cl outer) base (envX cn cs L a ccd cl :: outer) g → (tp.heap_39 w.params).In g → Top tp.view_39 loose mean mg mb g → RaisedSN base g (envX cn cs L a ccd cl :: outer) e (Value.type "KeyError") news h' → g.UpToSlots h' → E (.ref e) { s with heap := h', toks := tk' }) :
    wpAny (model Challenge.rw_fe0139_01.row.prog w) (Ar none dp un gd cn cs L a ccd cl outer) (call (.ref 43) [.ref 55, .bytes b bt]) Q E s := by
  obtain ⟨B, X, T, hk, hdp, hun⟩ := P
  revert X
  k_fill
  intro X
  refine wpAny_call ?_
  have kd0 : KtsDicts [] base := ktsDicts_nil
  k_dflt cell_enter
  k_steps
  · exact hret _ _ _ _ (by assumption) (by assumption) (by k_asm) (by first | k_asm | exact cb_drop (by assumption) (fun _ hp => .tail _ hp))
  · exact hex _ _ _ _ (by assumption) (by assumption) (by assumption) (by assumption) (by assumption) (by assumption) (by assumption)
local macro_rules | `(tactic| walk_at "call ref") => `(tactic| (k_here; (with_reducible show wpAny _ _ (call (Value.ref 36) [Value.ref 58, Value.bytes _ _]) _ _ _); k_dflt (refine' contains_58 ⟨?k1, ?k2, ?k3, ?k4, ?k5, ?k6⟩ ?F ?N ?hb ?_; (case k1 => k_asm); (case F => k_asm); (case N => k_asm); (case k2 => k_asm); (case k3 => k_asm); (case k4 => first | rfl | assumption); (case k5 => ktr_room); (case k6 => ktr_units); (case hb => omega)); intro h' tk' F' N'; (try dsimp only); (try k_fold)))
theorem getitem_58 {w : World} {loose : List Str} {mean : ExcName → Option Value} {mg mb : Str → Option Value} {news : List (Addr × Obj)} {b : Array UInt8} {bt : Tok}
  {dp un : Nat} {gd : Option (List Code)} {cn : Str} {cs : Scope} {a : Addr} {ccd : Value} {cl : List (Str × Addr)} {outer : List Env} {A₀ : Around} {base h₀ : Heap} {L : Addr} {m : Str → Option Value} {s : Shared} {Q E : Value → Shared → Prop}
    (P : At 2 w loose mean mg mb dp un cs outer A₀ base h₀) (F : Fr h₀ L s.heap m) (N : News h₀ L s.heap news) (hb : b.size ≤ 100)
    (hret : ∀ n t h' tk', has 58 b = true → hexPair b = some n → Fr h₀ L h' m → News h₀ L h' news → Q (.bytes #[n.toUInt8] t) { s with heap := h', toks := tk' })
    (hex : ∀ e h' tk' g, has 58 b = false → Fr h₀ L g m → Below (Ar none dp un gd cn cs L a ccd cl outer) base (envX cn cs L a ccd cl :: outer) g → (tp.heap_39 w.params).In g → Top tp.view_39 loose mean mg mb g → RaisedSN base g (envX cn cs L a ccd cl :: outer) e (Value.type "KeyError") news h' → g.UpToSlots h' → E (.ref e) { s with heap := h', toks := tk' }) :
    wpAny (model Challenge.rw_fe0139_01.row.prog w) (Ar none dp un gd cn cs L a ccd cl outer) (call (.ref 43) [.ref 58, .bytes b bt]) Q E s := by
  obtain ⟨B, X, T, hk, hdp, hun⟩ := P
  revert X
  k_fill
  intro X
  refine wpAny_call ?_
  have kd0 : KtsDicts [] base := ktsDicts_nil
  k_dflt cell_enter
  k_steps
  · exact hret _ _ _ _ (by assumption) (by assumption) (by k_asm) (by first | k_asm | exact cb_drop (by assumption) (fun _ hp => .tail _ hp))
  · exact hex _ _ _ _ (by assumption) (by assumption) (by assumption) (by assumption) (by assumption) (by assumption) (by assumption)
local macro_rules | `(tactic| walk_at "call ref") => `(tactic| (k_here; (with_reducible show wpAny _ _ (call (Value.ref 36) [Value.ref 61, Value.bytes _ _]) _ _ _); k_dflt (refine' contains_61 ⟨?k1, ?k2, ?k3, ?k4, ?k5, ?k6⟩ ?F ?N ?hb ?_; (case k1 => k_asm); (case F => k_asm); (case N => k_asm); (case k2 => k_asm); (case k3 => k_asm); (case k4 => first | rfl | assumption); (case k5 => ktr_room); (case k6 => ktr_units); (case hb => omega)); intro h' tk' F' N'; (try dsimp only); (try k_fold)))
theorem getitem_61 {w : World} {loose : List Str} {mean : ExcName → Option Value} {mg mb : Str → Option Value} {news : List (Addr × Obj)} {b : Array UInt8} {bt : Tok}
  {dp un : Nat} {gd : Option (List Code)} {cn : Str} {cs : Scope} {a : Addr} {ccd : Value} {cl : List (Str × Addr)} {outer : List Env} {A₀ : Around} {base h₀ : Heap} {L : Addr} {m : Str → Option Value} {s : Shared} {Q E : Value → Shared → Prop}
    (P : At 2 w loose mean mg mb dp un cs outer A₀ base h₀) (F : Fr h₀ L s.heap m) (N : News h₀ L s.heap news) (hb : b.size ≤ 100)
    (hret : ∀ n t h' tk', has 61 b = true → hexPair b = some n → Fr h₀ L h' m → News h₀ L h' news → Q (.bytes #[n.toUInt8] t) { s with heap := h', toks := tk' })
    (hex : ∀ e h' tk' g, has 61 b = false → Fr h₀ L g m → Below (Ar none dp un gd cn cs L a ccd cl outer) base (envX cn cs L a ccd cl :: outer) g → (tp.heap_39 w.params).In g → Top tp.view_39 loose mean mg mb g → RaisedSN base g (envX cn cs L a ccd cl :: outer) e (Value.type "KeyError") news h' → g.UpToSlots h' → E (.ref e) { s with heap := h', toks := tk' }) :
    wpAny (model Challenge.rw_fe0139_01.row.prog w) (Ar none dp un gd cn cs L a ccd cl outer) (call (.ref 43) [.ref 61, .bytes b bt]) Q E s := by
  obtain ⟨B, X, T, hk, hdp, hun⟩ := P
  revert X
  k_fill
  intro X
  refine wpAny_call ?_
  have kd0 : KtsDicts [] base := ktsDicts_nil
  k_dflt cell_enter
  k_steps
  · exact hret _ _ _ _ (by assumption) (by assumption) (by k_asm) (by first | k_asm | exact cb_drop (by assumption) (fun _ hp => .tail _ hp))
  · exact hex _ _ _ _ (by assumption) (by assumption) (by assumption) (by assumption) (by assumption) (by assumption) (by assumption)
local macro_rules | `(tactic| walk_at "call ref") => `(tactic| (k_here; (with_reducible show wpAny _ _ (call (Value.ref 36) [Value.ref 64, Value.bytes _ _]) _ _ _); k_dflt (refine' contains_64 ⟨?k1, ?k2, ?k3, ?k4, ?k5, ?k6⟩ ?F ?N ?hb ?_; (case k1 => k_asm); (case F => k_asm); (case N => k_asm); (case k2 => k_asm); (case k3 => k_asm); (case k4 => first | rfl | assumption); (case k5 => ktr_room); (case k6 => ktr_units); (case hb => omega)); intro h' tk' F' N'; (try dsimp only); (try k_fold)))
theorem getitem_64 {w : World} {loose : List Str} {mean : ExcName → Option Value} {mg mb : Str → Option Value} {news : List (Addr × Obj)} {b : Array UInt8} {bt : Tok}
  {dp un : Nat} {gd : Option (List Code)} {cn : Str} {cs : Scope} {a : Addr} {ccd : Value} {cl : List (Str × Addr)} {outer : List Env} {A₀ : Around} {base h₀ : Heap} {L : Addr} {m : Str → Option Value} {s : Shared} {Q E : Value → Shared → Prop}
    (P : At 2 w loose mean mg mb dp un cs outer A₀ base h₀) (F : Fr h₀ L s.heap m) (N : News h₀ L s.heap news) (hb : b.size ≤ 100)
    (hret : ∀ n t h' tk', has 64 b = true → hexPair b = some n → Fr h₀ L h' m → News h₀ L h' news → Q (.bytes #[n.toUInt8] t) { s with heap := h', toks := tk' })
    (hex : ∀ e h' tk' g, has 64 b = false → Fr h₀ L g m → Below (Ar none dp un gd cn cs L a ccd cl outer) base (envX cn cs L a ccd cl :: outer) g → (tp.heap_39 w.params).In g → Top tp.view_39 loose mean mg mb g → RaisedSN base g (envX cn cs L a ccd cl :: outer) e (Value.type "KeyError") news h' → g.UpToSlots h' → E (.ref e) { s with heap := h', toks := tk' }) :
    wpAny (model Challenge.rw_fe0139_01.row.prog w) (Ar none dp un gd cn cs L a ccd cl outer) (call (.ref 43) [.ref 64, .bytes b bt]) Q E s := by
  obtain ⟨B, X, T, hk, hdp, hun⟩ := P
  revert X
  k_fill
  intro X
  refine wpAny_call ?_
  have kd0 : KtsDicts [] base := ktsDicts_nil
  k_dflt cell_enter
  k_steps
  · exact hret _ _ _ _ (by assumption) (by assumption) (by k_asm) (by first | k_asm | exact cb_drop (by assumption) (fun _ hp => .tail _ hp))
  · exact hex _ _ _ _ (by assumption) (by assumption) (by assumption) (by assumption) (by assumption) (by assumption) (by assumption)
local macro_rules | `(tactic| walk_at "call ref") => `(tactic| (k_here; (with_reducible show wpAny _ _ (call (Value.ref 36) [Value.ref 67, Value.bytes _ _]) _ _ _); k_dflt (refine' contains_67 ⟨?k1, ?k2, ?k3, ?k4, ?k5, ?k6⟩ ?F ?N ?hb ?_; (case k1 => k_asm); (case F => k_asm); (case N => k_asm); (case k2 => k_asm); (case k3 => k_asm); (case k4 => first | rfl | assumption); (case k5 => ktr_room); (case k6 => ktr_units); (case hb => omega)); intro h' tk' F' N'; (try dsimp only); (try k_fold)))
theorem getitem_67 {w : World} {loose : List Str} {mean : ExcName → Option Value} {mg mb : Str → Option Value} {news : List (Addr × Obj)} {b : Array UInt8} {bt : Tok}
  {dp un : Nat} {gd : Option (List Code)} {cn : Str} {cs : Scope} {a : Addr} {ccd : Value} {cl : List (Str × Addr)} {outer : List Env} {A₀ : Around} {base h₀ : Heap} {L : Addr} {m : Str → Option Value} {s : Shared} {Q E : Value → Shared → Prop}
    (P : At 2 w loose mean mg mb dp un cs outer A₀ base h₀) (F : Fr h₀ L s.heap m) (N : News h₀ L s.heap news) (hb : b.size ≤ 100)
    (hret : ∀ n t h' tk', has 67 b = true → hexPair b = some n → Fr h₀ L h' m → News h₀ L h' news → Q (.bytes #[n.toUInt8] t) { s with heap := h', toks := tk' })
    (hex : ∀ e h' tk' g, has 67 b = false → Fr h₀ L g m → Below (Ar none dp un gd cn cs L a ccd cl outer) base (envX cn cs L a ccd cl :: outer) g → (tp.heap_39 w.params).In g → Top tp.view_39 loose mean mg mb g → RaisedSN base g (envX cn cs L a ccd cl :: outer) e (Value.type "KeyError") news h' → g.UpToSlots h' → E (.ref e) { s with heap := h', toks := tk' }) :
    wpAny (model Challenge.rw_fe0139_01.row.prog w) (Ar none dp un gd cn cs L a ccd cl outer) (call (.ref 43) [.ref 67, .bytes b bt]) Q E s := by
  obtain ⟨B, X, T, hk, hdp, hun⟩ := P
  revert X
  k_fill
  intro X
  refine wpAny_call ?_
  have kd0 : KtsDicts [] base := ktsDicts_nil
  k_dflt cell_enter
  k_steps
  · exact hret _ _ _ _ (by assumption) (by assumption) (by k_asm) (by first | k_asm | exact cb_drop (by assumption) (fun _ hp => .tail _ hp))
  · exact hex _ _ _ _ (by assumption) (by assumption) (by assumption) (by assumption) (by assumption) (by assumption) (by assumption)
local macro_rules | `(tactic| walk_at "call ref") => `(tactic| (k_here; (with_reducible show wpAny _ _ (call (Value.ref 36) [Value.ref 70, Value.bytes _ _]) _ _ _); k_dflt (refine' contains_70 ⟨?k1, ?k2, ?k3, ?k4, ?k5, ?k6⟩ ?F ?N ?hb ?_; (case k1 => k_asm); (case F => k_asm); (case N => k_asm); (case k2 => k_asm); (case k3 => k_asm); (case k4 => first | rfl | assumption); (case k5 => ktr_room); (case k6 => ktr_units); (case hb => omega)); intro h' tk' F' N'; (try dsimp only); (try k_fold)))
theorem getitem_70 {w : World} {loose : List Str} {mean : ExcName → Option Value} {mg mb : Str → Option Value} {news : List (Addr × Obj)} {b : Array UInt8} {bt : Tok}
  {dp un : Nat} {gd : Option (List Code)} {cn : Str} {cs : Scope} {a : Addr} {ccd : Value} {cl : List (Str × Addr)} {outer : List Env} {A₀ : Around} {base h₀ : Heap} {L : Addr} {m : Str → Option Value} {s : Shared} {Q E : Value → Shared → Prop}
    (P : At 2 w loose mean mg mb dp un cs outer A₀ base h₀) (F : Fr h₀ L s.heap m) (N : News h₀ L s.heap news) (hb : b.size ≤ 100)
    (hret : ∀ n t h' tk', has 70 b = true → hexPair b = some n → Fr h₀ L h' m → News h₀ L h' news → Q (.bytes #[n.toUInt8] t) { s with heap := h', toks := tk' })
    (hex : ∀ e h' tk' g, has 70 b = false → Fr h₀ L g m → Below (Ar none dp un gd cn cs L a ccd cl outer) base (envX cn cs L a ccd cl :: outer) g → (tp.heap_39 w.params).In g → Top tp.view_39 loose mean mg mb g → RaisedSN base g (envX cn cs L a ccd cl :: outer) e (Value.type "KeyError") news h' → g.UpToSlots h' → E (.ref e) { s with heap := h', toks := tk' }) :
    wpAny (model Challenge.rw_fe0139_01.row.prog w) (Ar none dp un gd cn cs L a ccd cl outer) (call (.ref 43) [.ref 70, .bytes b bt]) Q E s := by
  obtain ⟨B, X, T, hk, hdp, hun⟩ := P
  revert X
  k_fill
  intro X
  refine wpAny_call ?_
  have kd0 : KtsDicts [] base := ktsDicts_nil
  k_dflt cell_enter
  k_steps
  · exact hret _ _ _ _ (by assumption) (by assumption) (by k_asm) (by first | k_asm | exact cb_drop (by assumption) (fun _ hp => .tail _ hp))
  · exact hex _ _ _ _ (by assumption) (by assumption) (by assumption) (by assumption) (by assumption) (by assumption) (by assumption)
end Mine
namespace Mine
open PySem PySem.W PyProof.Rows
/-- bytes with their tokens, as values -/
def bytesL (l : List (List UInt8 × Tok)) : List Value := l.map fun p => .bytes p.1.toArray p.2
theorem bytesL_of : ∀ (l : List (Array UInt8 × Tok)) (bs : List (List UInt8)), l.map (·.1) = bs.map List.toArray → ∃ l', BR.bytesValues l = bytesL l' ∧ l'.map (·.1) = bs
  | [], [], _ => ⟨[], rfl, rfl⟩
  | [], _ :: _, h => nomatch h
  | _ :: _, [], h => nomatch h
  | (b, t) :: l, p :: bs, h => by
    rw [List.map_cons, List.map_cons] at h
    injection h with h1 h2
    obtain ⟨l', e1, e2⟩ := bytesL_of l bs h2
    refine ⟨(p, t) :: l', ?_, by rw [List.map_cons, e2]⟩
    show Value.bytes b t :: BR.bytesValues l = Value.bytes p.toArray t :: bytesL l'
    have h1' : b = p.toArray := h1
    rw [e1, h1']
section
variable {prog : Program} {w : World} {A : Around} {E : Value → Shared → Prop} {s : Shared} {b : Array UInt8} {x : Str} {t u : Tok} {h₀ : Heap} {L : Addr} {m : PySem.Str → Option Value} {news : List (Addr × Obj)}
theorem method_encode {M : Model} {pl : Sem Bool} {Q : Value × List Value → Shared → Prop} (h : Q (.builtin "str.encode", [.str x t]) s) : wpAny M A (getMethod (.str x t) (Str.ofString "encode") pl) Q E s :=
  getMethod_builtin (typeIs_str _ _ _) F.plainAttrs_str F.slot_str_encode F.type_str_encode (fun _ e => nomatch e) h
theorem split_pct {Q : Value → Shared → Prop} (F : Fr h₀ L s.heap m) (N : News h₀ L s.heap news) (hz : b.size ≤ 100)
    (h : ∀ D p0 t0 l h' k, BR.splitPct b.toList = p0 :: l.map (·.1) → Fr h₀ L h' m → News h₀ L h' ((D, listOf (List.toArray (Value.bytes p0.toArray t0 :: bytesL l)) 0) :: news) → (∀ p ∈ news, p.1 < D) → Q (.ref D) { s with heap := h', toks := k }) :
    wpAny (model prog w) A (call (.builtin "bytes.split") [.bytes b t, .bytes #[37] u]) Q E s := by
  have hbl : b.toList.length = b.size := Array.length_toList
  refine BR.split F N rfl ?_ ?_ fun D l h' k e F' N' hl => ?_
  · rw [BR.parts_eq, List.length_map, sizeLine_eq]
    have := BR.splitPct_len b.toList
    omega
  · intro p hp
    rw [BR.parts_eq] at hp
    obtain ⟨q, hq, rfl⟩ := List.mem_map.mp hp
    have := BR.splitPct_sizes b.toList q hq
    rw [sizeLine_eq, List.size_toArray]
    omega
  · rw [BR.parts_eq] at e
    obtain ⟨l', e1, e2⟩ := bytesL_of l _ e
    rw [e1] at N'
    cases l' with
    | nil => exact absurd e2.symm (BR.splitPct_ne _)
    | cons p l'' =>
      obtain ⟨p0, t0⟩ := p
      exact h D p0 t0 l'' h' k e2.symm F' N' hl
theorem split_len {p0 : List UInt8} {l : List (List UInt8 × Tok)} {b : Array UInt8} (hz : b.size ≤ 100) (e : BR.splitPct b.toList = p0 :: l.map (·.1)) : l.length ≤ 100 := by
  have := BR.splitPct_len b.toList
  have h0 : b.toList.length = b.size := Array.length_toList
  rw [e, List.length_cons, List.length_map] at this
  omega
theorem bytesL_length (l : List (List UInt8 × Tok)) : (bytesL l).length = l.length := List.length_map ..
theorem len_bytesL {v0 : Value} {l : List (List UInt8 × Tok)} {D : Addr} {n : Nat} {Q : Value → Shared → Prop} (N : News h₀ L s.heap news) (hm : (D, listOf (List.toArray (v0 :: bytesL l)) n) ∈ news) (hz : l.length ≤ 100)
    (h : Q (.int ((l.length : Int) + 1) (s.toks + 1)) { s with toks := s.toks + 1 + 1 }) : wpAny (model prog w) A (call (.builtin "len") [.ref D]) Q E s := by
  have hl : s.heap.IsList D (List.toArray (v0 :: bytesL l)) := ⟨_, (N _ hm).1, rfl, n, rfl⟩
  have e : (List.toArray (v0 :: bytesL l)).size = l.length + 1 := by rw [List.size_toArray, List.length_cons, bytesL_length]
  refine len_list hl (by rw [e]; omega) ?_
  rw [e]
  exact h
theorem slice1_eq (v0 : Value) (us : List Value) : (slicePick (List.toArray (v0 :: us)) (some 1) none none).toList = us := by
  rw [kmk_pick_nat (lo := some 1) (hi := none) (a := 1) (b := us.length + 1) (List.toArray (v0 :: us)) (by
    rw [sliceBounds_plain]
    show (((clipAt _ 1 : Nat) : Int), _) = _
    rw [KBc.clip_lit, List.size_toArray, List.length_cons]
    have : min 1 (us.length + 1) = 1 := by omega
    rw [this]
    rfl)]
  simp
end
end Mine
namespace Mine
open PySem PySem.W PyProof.Rows PySem.Spec
namespace LA
open PySem.Builtin
def boundApp (l : Addr) : Obj := { cls := .type "builtin_function_or_method", data := .fields #[.builtin "list.append", .ref l] }
theorem slot_md : Slot "method_descriptor" "__get__" "method_descriptor.__get__" :=
  .of (owner := "method_descriptor") (n := "__get__") (by rw [typeLookup_type, builtinLookup_eq_fast]; kernel_rfl) (by decide +kernel) (by decide +kernel) (by decide +kernel)
    (by first | exact .inl (by decide +kernel) | exact .inr (by decide +kernel)) (by rw [isSubtype_type]; kernel_rfl)
theorem set_md : typeLookup (.type "method_descriptor") "__set__" = pure none := by rw [typeLookup_type, builtinLookup_eq_fast]; kernel_rfl
theorem del_md : typeLookup (.type "method_descriptor") "__delete__" = pure none := by rw [typeLookup_type, builtinLookup_eq_fast]; kernel_rfl
theorem entry_md : entryFor table "method_descriptor.__get__" = some Builtin.«method_descriptor.__get__» := entryFor_of_tree (by kernel_rfl)
theorem args_md (a b c : Value) : argsOk "method_descriptor.__get__" ⟨[a, b, c], []⟩ := by unfold argsOk; kernel_rfl
theorem type_app : typeOf (.builtin "list.append") = pure (.type "method_descriptor") := by show builtinType _ = _; rw [builtinType_eq_fast]; kernel_rfl
theorem lk_app : typeLookup (.type "list") "append" = pure (some (.builtin "list.append")) := by rw [typeLookup_type, builtinLookup_eq_fast]; kernel_rfl
theorem owner_app : (kfb_private% "ownerAndName") "list.append" = ("list", "append") := by first | decide +kernel | kernel_rfl
theorem told_app : Manifest.toldItsClass.contains "list.append" = false := by decide +kernel
theorem sub_ll : isSubtype (.type "list") (.type "list") = pure true := by rw [isSubtype_type]; kernel_rfl
section
variable {prog : Program} {w : World} {A : Around} {E : Value → Shared → Prop} {h : Heap} {g : Array GenState} {d : Drawn} {t : Nat} {os : OsState} {a : Addr} {o : Obj}
theorem get_run {P : Fin → Shared → Prop} (hx : h.get? a = some o) (hc : o.cls = .type "list") (hq : P (.done (.ret (.ref h.objs.size))) ⟨h.push (boundApp a), g, d, t, os⟩) :
    wpAny (model prog w) A (Builtin.«method_descriptor.__get__» ⟨[.builtin "list.append", .ref a, .type "list"], []⟩) P E ⟨h, g, d, t, os⟩ := by
  have hT : (⟨h, g, d, t, os⟩ : Shared).TypeIs (.ref a) "list" := ⟨_, hx, hc⟩
  unfold Builtin.«method_descriptor.__get__»
  refine wpAny_bind (wpAny_of_eq (a := (.builtin "list.append", some (.ref a), some (.type "list"))) (by first | rfl | kernel_rfl) ?_)
  dsimp only
  refine wpAny_ite (KBy.ite_no (by rw [told_app]; decide) ?_)
  show wpAny _ _ ((kfb_private% "checkInstance") (.builtin "list.append") (.ref a) >>= fun _ => _) _ _ _
  refine wpAny_bind ?_
  show wpAny _ _ ((kfb_private% "nameAndClass") (.builtin "list.append") >>= fun _ => _) _ _ _
  refine wpAny_bind (wpAny_of_eq (a := (PySem.Str.ofString "append", .type "list")) (by first | rfl | kernel_rfl) ?_)
  dsimp only
  refine wpAny_bind (wpAny_isInstance (T := "list") (b := true) hT sub_ll ?_)
  refine wpAny_ite (KBy.ite_no (by decide) ?_)
  refine wpAny_pure ?_
  refine wpAny_bind ?_
  show wpAny _ _ (newFields "builtin_function_or_method" [.builtin "list.append", .ref a]) _ _ _
  exact wpAny_newObj_type (wpAny_pure hq)
theorem get_code {R : Result → Shared → Prop} (hx : h.get? a = some o) (hc : o.cls = .type "list") (hq : R (.ok (.ret (.ref h.objs.size))) ⟨h.push (boundApp a), g, d, t, os⟩) :
    codeAny (model prog w) A (.call (.builtin "method_descriptor.__get__") ⟨[.builtin "list.append", .ref a, .type "list"], []⟩) R ⟨h, g, d, t, os⟩ := by
  have hT5 : (⟨h, g, d, t, os⟩ : Shared).TypeIs (.builtin "list.append") "method_descriptor" := type_app
  refine codeAny_call_builtin slot_md.plain entry_md (slot_md.check _ _ _ _ _ _ _ _ hT5 (args_md _ _ _) ?_)
  exact get_run hx hc hq
theorem ga_run {tk : Tok} {xs : Array Value} {k : Nat} {Q : Fin → Shared → Prop} (hx : h.get? a = some (listOf xs k)) (hq : Q (.done (.ret (.ref h.objs.size))) ⟨h.push (boundApp a), g, d, t, os⟩) :
    wpAny (model prog w) A (Builtin.«object.__getattribute__» ⟨[.ref a, .str (PySem.Str.ofString "append") tk], []⟩) Q E ⟨h, g, d, t, os⟩ := by
  have hT : (⟨h, g, d, t, os⟩ : Shared).TypeIs (.ref a) "list" := ⟨_, hx, rfl⟩
  have hT5 : (⟨h, g, d, t, os⟩ : Shared).TypeIs (.builtin "list.append") "method_descriptor" := type_app
  have f4 := lk_app
  have f5 := type_app
  have f6 := slot_md.lookup
  have f7 := set_md
  have f8 := del_md
  repeat (any_goals (first | assumption | wp_step))
  all_goals (refine get_code hx rfl ?_; exact wpAny_pure hq)
theorem ga_code {tk : Tok} {xs : Array Value} {k : Nat} {R : Result → Shared → Prop} (hx : h.get? a = some (listOf xs k)) (hq : R (.ok (.ret (.ref h.objs.size))) ⟨h.push (boundApp a), g, d, t, os⟩) :
    codeAny (model prog w) A (.call (.builtin "list.__getattribute__") ⟨[.ref a, .str (PySem.Str.ofString "append") tk], []⟩) R ⟨h, g, d, t, os⟩ :=
  codeAny_call_builtin F.slot_list_getattribute.plain F.entry_list_ga (F.slot_list_getattribute.check _ _ _ _ _ _ _ _ (show (⟨h, g, d, t, os⟩ : Shared).TypeIs (.ref a) "list" from ⟨_, hx, rfl⟩) (F.args_list_getattribute_2 _ _) (ga_run hx hq))
theorem get_append {xs : Array Value} {k : Nat} {Q : Value → Shared → Prop} (hx : h.get? a = some (listOf xs k)) (hq : Q (.ref h.objs.size) ⟨h.push (boundApp a), g, d, t + 1, os⟩) :
    wpAny (model prog w) A (getAttr (.ref a) (PySem.Str.ofString "append") true) Q E ⟨h, g, d, t, os⟩ := by
  have hT : ∀ tk', (⟨h, g, d, tk', os⟩ : Shared).TypeIs (.ref a) "list" := fun _ => ⟨_, hx, rfl⟩
  have f3 := F.slot_list_getattribute.lookup
  have f4 := F.slot_list_getattribute.bind (.ref a)
  unfold getAttr getAttrBy
  repeat (any_goals (first | assumption | exact hT _ | wp_step))
  refine ga_code hx ?_
  show wpAny _ _ (handedOut (.ref h.objs.size)) _ _ _
  rw [handedOut_of rfl]
  exact wpAny_pure hq
end
section
variable {prog : Program} {w : World} {M : Model} {A : Around} {E : Value → Shared → Prop} {s : Shared} {h₀ : Heap} {L : Addr} {m : PySem.Str → Option Value} {news : List (Addr × Obj)}
theorem getAttr_app {a : Addr} {xs : Array Value} {k : Nat} {Q : Value → Shared → Prop} (F : Fr h₀ L s.heap m) (N : News h₀ L s.heap news) (hm : (a, listOf xs k) ∈ news)
    (h : ∀ q h', Fr h₀ L h' m → News h₀ L h' ((q, boundApp a) :: news) → (∀ p ∈ news, p.1 < q) → Q (.ref q) { s with heap := h', toks := s.toks + 1 }) :
    wpAny (model prog w) A (getAttr (.ref a) (PySem.Str.ofString "append") true) Q E s := by
  obtain ⟨hp, g, d, tk, os⟩ := s
  exact get_append (N _ hm).1 (h _ _ (F.push _) (N.push F _ rfl) fun p hp => Heap.lt_size (N p hp).1)
def StandsApp (x l : Addr) (h : Heap) : Prop := h.get? x = some (boundApp l)
theorem callWith_fields {pos : Pos} {u l : Addr} {first : List Value} {args : List (Bool × Sem Value)} {Q : Value → Shared → Prop} (hplain : args.any (·.1) = false)
    (h : wpAny M A (evalArgs (.ref u) true args []) (fun x s₁ => StandsApp u l s₁.heap ∧ wpAny M A (call (.ref u) (first ++ x.pos) x.kw) Q E s₁) E s) : wpAny M A (callWith pos (.ref u) first args []) Q E s := by
  unfold callWith
  refine wpAny_bind (wpAny_holding (wpAny_mono h (fun x s₁ h₁ => wpAny_bind (wpAny_standAt ?_)) fun _ _ x => x))
  obtain ⟨ho, hcall⟩ := h₁
  simp only [hplain, List.any_nil, Bool.or_false]
  refine wpAny_bind (m := keeperOf (.ref u)) ?_
  unfold keeperOf
  refine wpAny_bind (wpAny_load ho ?_)
  simp only [boundApp, show (Value.type "builtin_function_or_method" != Value.type "method") = true by decide, show (Value.type "builtin_function_or_method" == Value.type "builtin_function_or_method" || Value.type "builtin_function_or_method" == Value.type "method-wrapper") = true by decide, if_true]
  refine wpAny_pure ?_
  exact wpAny_bind (wpAny_mono hcall (fun r s₂ hr => wpAny_bind (wpAny_holding (wpAny_point (wpAny_pure hr)))) fun _ _ x => x)
theorem callWith_app {pos : Pos} {u l : Addr} {first : List Value} {env : Env} {e : Expr} {rest : List Expr} {Q : Value → Shared → Prop} (_N : News h₀ L s.heap news) (_hm : (u, boundApp l) ∈ news)
    (h : wpAny M A (spliced (backTo pos (starEach (e :: rest) env))) (fun vs s₁ => StandsApp u l s₁.heap ∧ wpAny M A (call (.ref u) (first ++ vs)) Q E s₁) E s)
    (he : starEach (e :: rest) env = (false, eval e env) :: starEach rest env := by rfl) (hplain : (backTo pos (starEach rest env)).any (·.1) = false := by rfl) :
    wpAny M A (callWith pos (.ref u) first (backTo pos (starEach (e :: rest) env)) []) Q E s := by
  rw [he] at h ⊢
  refine callWith_fields (l := l) (by show (false || (backTo pos (starEach rest env)).any (·.1)) = false; rw [hplain]; rfl) ?_
  exact Calls.evalArgs_plain h
theorem quiet_app {as : Args} : (Code.builtin "list.append" as).quiet = true := Code.quiet_builtin _ (by decide +kernel)
theorem entry_app : entryFor table "list.append" = some Builtin.«list.append» := entryFor_of_tree (by kernel_rfl)
theorem sig_is : (Manifest.signature? "list.append").isSome = true := by decide +kernel
theorem sig_ok (a b : Value) : Bind.checkArgs "list.append" { (Manifest.signature? "list.append").get sig_is with full := toString (Bind.lastOf "list") ++ toString "." ++ toString (Bind.lastOf "list.append") } ⟨[a, b], []⟩ = pure () := by kernel_rfl
theorem kind_app : builtinKind "list.append" = some .method := by decide +kernel
theorem var_app : Manifest.varargsMethods.contains "list.append" = false := by decide +kernel
theorem sub_lm : isSubtype (.type "list") (.type "module") = pure false := by rw [isSubtype_type]; kernel_rfl
theorem sub_lt : isSubtype (.type "list") (.type "type") = pure false := by rw [isSubtype_type]; kernel_rfl
theorem check_app {l : Addr} {v : Value} {its : Array Value} {n : Nat} {Q : Unit → Shared → Prop} (ho : s.heap.get? l = some (listOf its n)) (h : Q () s) : wpAny M A (checkBoundCall "list.append" ⟨[.ref l, v], []⟩) Q E s := by
  have hT : s.TypeIs (.ref l) "list" := ⟨_, ho, rfl⟩
  unfold checkBoundCall
  have hs : Manifest.signature? "list.append" = some ((Manifest.signature? "list.append").get sig_is) := by simp
  rw [hs]
  dsimp only
  rw [kind_app]
  dsimp only
  refine wpAny_ite (KBy.ite_no (by decide) ?_)
  refine wpAny_bind (wpAny_isInstance (T := "list") (b := false) hT sub_lm ?_)
  refine wpAny_ite (KBy.ite_no (by rw [var_app]; decide) ?_)
  refine wpAny_bind ?_
  refine wpAny_bind (m := loadHead l) (wpAny_loadPart ho ?_)
  refine wpAny_pure ?_
  refine wpAny_ite (KBy.ite_no Bool.false_ne_true ?_)
  refine wpAny_bind (wpAny_typeOf hT ?_)
  exact wpAny_of_eq (sig_ok _ _) h
theorem call_app {x l : Addr} {v : Value} {its : Array Value} {n : Nat} {news' : List (Addr × Obj)} {Q : Value → Shared → Prop} (F : Fr h₀ L s.heap m) (N : News h₀ L s.heap news) (hm : (x, boundApp l) ∈ news) (U : Upd l (listOf its n) (listOf (its.push v) (n + 1)) news news') (hsz : its.size ≤ sizeLine)
    (h : ∀ h', Fr h₀ L h' m → News h₀ L h' news' → Q .none { s with heap := h' }) : wpAny (model prog w) A (call (.ref x) [v]) Q E s := by
  refine wpAny_call (codeAny_of_tree ?_)
  show wpAny _ A.in1 (callAny (.ref x) ⟨[v], []⟩) _ _ s
  simp only [callAny]
  refine wpAny_bind (wpAny_load (N _ hm).1 ?_)
  simp only [boundApp, show (Value.type "builtin_function_or_method" == Value.type "method" || Value.type "builtin_function_or_method" == Value.type "builtin_function_or_method" || Value.type "builtin_function_or_method" == Value.type "method-wrapper") = true by decide, if_true]
  refine wpAny_ite (KBc.ite_yes (by decide) ?_)
  obtain ⟨pre, post, rfl, rfl, a, b⟩ := U.split
  have z := N (l, listOf its n) (List.mem_append.mpr (.inr (.head _)))
  refine wpAny_bind (check_app z.1 ?_)
  refine wpAny_bind (wpAny_pure (wpAny_pure ?_))
  refine ⟨quiet_app, codeAny_builtin entry_app ?_⟩
  show wpAny _ _ (updateSeq l (·.push v) >>= fun _ => ret .none) _ _ s
  refine wpAny_bind ?_
  refine wpAny_updateSeq z.1 rfl (wpAny_pure ?_)
  have hs : Heap.SameBut l s.heap (s.heap.update l (Obj.mapSeq (·.push v))) := Heap.SameBut.update ..
  have ho' : (s.heap.update l (Obj.mapSeq (·.push v))).get? l = some (listOf (its.push v) (n + 1)) := by
    rw [Heap.get?_update_self _ z.1 (by rw [mapSeq_push]; rfl), mapSeq_push]
  exact h _ (F.change hs z.2.1 z.2.2) (news_set N a b hs ho')
theorem at_app {x l : Addr} {h : Heap} (N : News h₀ L h news) (hm : (x, boundApp l) ∈ news) : StandsApp x l h := N.get hm
end
end LA
end Mine
namespace Mine
open PySem PySem.W PyProof.Rows PySem.Spec
section
variable {prog : Program} {w : World} {A : Around} {E : Value → Shared → Prop} {s : Shared} {env : Env} {h₀ : Heap} {x : Str} {body : List Stmt} {Q : Flow → Shared → Prop}
/-- the ledger of the loop -/
abbrev Led4 (D2 q r D : Addr) (o0 o1 o2 : Obj) (rr : List (List UInt8 × Tok)) (n : Nat) (tl : List (Addr × Obj)) : List (Addr × Obj) := (D2, o0) :: (q, o1) :: (r, listOf (bytesL rr).toArray n) :: (D, o2) :: tl
/-- a turn's end: the one list has grown, the heap below may have turned -/
def MyEnd (G : Heap → Prop) (L : Addr) (x : Str) (stored : List Str) (m₀ : Str → Option Value) (D2 q r D : Addr) (o0 o1 o2 : Obj) (tl : List (Addr × Obj)) (P : List (List UInt8 × Tok) → Prop) (s s' : Shared) : Prop :=
  ∃ g h' tk' rr n m', s' = { s with heap := h', toks := tk' } ∧ G g ∧ P rr ∧ Fr g L h' m' ∧ (∀ z, z ≠ x → stored.contains z = false → m' z = m₀ z) ∧ News g L h' (Led4 D2 q r D o0 o1 o2 rr n tl)
def MyPost (G : Heap → Prop) (L : Addr) (x : Str) (stored : List Str) (m₀ : Str → Option Value) (D2 q r D : Addr) (o0 o1 o2 : Obj) (tl : List (Addr × Obj)) (P : List (List UInt8 × Tok) → Prop) (s : Shared) (Q : Flow → Shared → Prop) (f : Flow) (s' : Shared) : Prop :=
  match f with
  | .ret v => Q (.ret v) s'
  | .brk => Q .next s'
  | _ => MyEnd G L x stored m₀ D2 q r D o0 o1 o2 tl P s s'
theorem mem_led {D2 q r D : Addr} {o0 o1 o2 : Obj} {rr : List (List UInt8 × Tok)} {n : Nat} {tl : List (Addr × Obj)} {I : Addr} {oI : Obj} {p : Addr × Obj} (h : p ∈ Led4 D2 q r D o0 o1 o2 rr n (tl ++ [(I, oI)])) : p ∈ Led4 D2 q r D o0 o1 o2 rr n tl ∨ p = (I, oI) := by
  simp only [Led4, List.mem_cons, List.mem_append, List.not_mem_nil, or_false] at h ⊢
  rcases h with h | h | h | h | h | h <;> simp [h]
theorem led_mem {D2 q r D : Addr} {o0 o1 o2 : Obj} {rr : List (List UInt8 × Tok)} {n : Nat} {tl : List (Addr × Obj)} {I : Addr} {oI : Obj} {p : Addr × Obj} (h : p ∈ Led4 D2 q r D o0 o1 o2 rr n tl) : p ∈ Led4 D2 q r D o0 o1 o2 rr n (tl ++ [(I, oI)]) := by
  simp only [Led4, List.mem_cons, List.mem_append, List.not_mem_nil, or_false] at h ⊢
  rcases h with h | h | h | h | h <;> simp [h]
theorem forLoop_items {R : Result → Shared → Prop} {px : Pos} (G : Heap → Prop) {g0 : Heap} {items : List (List UInt8 × Tok)} {D2 q r D I : Addr} {o1 o2 : Obj} {news : List (Addr × Obj)} {m₀ : Str → Option Value} {r0 : List (List UInt8 × Tok)} {n0 : Nat} (stored : List Str) (P : Nat → List (List UInt8 × Tok) → Prop)
    (hx : env.kindOf x = some .local) (hp : (env.scope.kind == .class || (env.scope.kind == .module && env.locals != env.globals)) = false)
    (hh : A.handled = none) (hG : G g0) (F : Fr g0 env.locals s.heap m₀) (N : News g0 env.locals s.heap (Led4 D2 q r D (listOf (bytesL items).toArray 0) o1 o2 r0 n0 news))
    (hI : s.heap.IsListIter I D2 0) (hI1 : I ≠ env.locals) (hI2 : g0.get? I = none) (hI3 : ∀ p ∈ news, p.1 ≠ I) (hI4 : D2 ≠ I ∧ q ≠ I ∧ r ≠ I ∧ D ≠ I)
    (hne : ∀ p ∈ news, p.1 ≠ r) (hp0 : P 0 r0)
    (turn : ∀ g i p t rr n (u : Str → Option Value) h tk tl, G g → items[i]? = some (p, t) → P i rr → (∀ e ∈ tl, e.1 ≠ r) →
      Fr g env.locals h (fun y => if y = x then some (.bytes p.toArray t) else if stored.contains y then u y else m₀ y) →
      News g env.locals h (Led4 D2 q r D (listOf (bytesL items).toArray 0) o1 o2 rr n tl) →
      wpAny (model prog w) A (execs body env) (MyPost G env.locals x stored m₀ D2 q r D (listOf (bytesL items).toArray 0) o1 o2 tl (P (i + 1)) { s with heap := h, toks := tk } (fun f s' => R (.ok f) s')) (notedBy (model prog w) A env fun e s' => R (.error e) s') { s with heap := h, toks := tk })
    (done : ∀ g rr n (u : Str → Option Value) h tk, G g → P items.length rr → Fr g env.locals h (fun y => if y = x then u y else if stored.contains y then u y else m₀ y) →
      News g env.locals h (Led4 D2 q r D (listOf (bytesL items).toArray 0) o1 o2 rr n news) → R (.ok .next) { s with heap := h, toks := tk }) :
    codeAny (model prog w) A (.forLoop (.Name x px) (.ref I) body [] env) R s := by
  have W := Walks.list (prog := prog) (w := w) hh I D2 hI4.1 (bytesL items).toArray
  have hlen : (bytesL items).toArray.size = items.length := by simp [bytesL]
  rw [hlen] at W
  have offI : ∀ rr n, ∀ p ∈ Led4 D2 q r D (listOf (bytesL items).toArray 0) o1 o2 rr n news, p.1 ≠ I := by
    intro rr n p hp
    simp only [Led4, List.mem_cons] at hp
    rcases hp with rfl | rfl | rfl | rfl | hp
    · exact hI4.1
    · exact hI4.2.1
    · exact hI4.2.2.1
    · exact hI4.2.2.2
    · exact hI3 p hp
  refine codeAny_forLoop
    (fun k s' => ∃ g h' tk m' i rr n, s' = { s with heap := h', toks := tk } ∧ G g ∧ h'.IsListIter I D2 i ∧ Fr g env.locals h' m' ∧ News g env.locals h' (Led4 D2 q r D (listOf (bytesL items).toArray 0) o1 o2 rr n news) ∧ g.get? I = none ∧ P i rr ∧ (∀ z, z ≠ x → stored.contains z = false → m' z = m₀ z) ∧ i ≤ items.length ∧ k = items.length + 1 - i) ?_ (items.length + 1)
    ⟨g0, s.heap, s.toks, m₀, 0, r0, n0, rfl, hG, hI, F, N, hI2, hp0, fun _ _ _ => rfl, Nat.zero_le _, rfl⟩
  rintro k s' ⟨g, h', tk, m', i, rr, n, rfl, hG', hit, F', N', hgI, hP, hm, hi, rfl⟩
  have hls : h'.IsList D2 (bytesL items).toArray := ⟨_, (N' _ (.head _)).1, rfl, 0, rfl⟩
  have next : ∀ h₁ : Heap, (∀ b o, b ∉ [I] → h'.get? b = some o → h₁.get? b = some o) → Fr g env.locals h₁ m' ∧ News g env.locals h₁ (Led4 D2 q r D (listOf (bytesL items).toArray 0) o1 o2 rr n news) := fun h₁ hk₁ =>
    ⟨⟨F'.ns.at' fun o e => hk₁ _ o (fun hm => hI1 (List.mem_singleton.mp hm).symm) e, fun b o e => hk₁ b o (fun hm => by rw [List.mem_singleton.mp hm, hgI] at e; cases e) (F'.keep b o e), F'.above⟩,
     fun p hp => ⟨hk₁ _ _ (fun hm => offI rr n p hp (List.mem_singleton.mp hm)) (N' p hp).1, (N' p hp).2⟩⟩
  by_cases hlt : i < items.length
  · refine W.item i _ _ _ hlt ⟨hit, hls⟩ fun v h₁ tk₁ hPv hst₁ hk₁ => ?_
    obtain ⟨F₁, N₁⟩ := next h₁ hk₁
    obtain ⟨p, t, hpt, rfl⟩ : ∃ p t, items[i]? = some (p, t) ∧ v = .bytes p.toArray t := by
      unfold bytesL at hPv
      rw [List.getElem?_toArray, List.getElem?_map] at hPv
      cases hi : items[i]? with
      | none => rw [hi] at hPv; cases hPv
      | some y => rw [hi] at hPv; exact ⟨y.1, y.2, rfl, (Option.some.inj hPv).symm⟩
    refine wpAny_assign_Name (wpAny_storeName_local hx F₁.ns (fun h₂ hn₂ hs₂ => ?_) hp)
    have F₂ := F₁.set hn₂ hs₂
    obtain ⟨oI, hoI, hoI'⟩ := hst₁.1
    have hI₂ : h₂.get? I = some oI := (hs₂.2 I hI1).trans hoI
    have N₂ : News g env.locals h₂ (Led4 D2 q r D (listOf (bytesL items).toArray 0) o1 o2 rr n (news ++ [(I, oI)])) := by
      intro p hp
      rcases mem_led hp with hp | rfl
      · exact ⟨(hs₂.2 p.1 (N₁ p hp).2.1).trans (N₁ p hp).1, (N₁ p hp).2⟩
      · exact ⟨hI₂, hI1, hgI⟩
    have hn2 : ∀ e ∈ news ++ [(I, oI)], e.1 ≠ r := by
      intro e he
      rcases List.mem_append.mp he with he | he
      · exact hne e he
      · rw [List.mem_singleton.mp he]
        exact fun h => hI4.2.2.1 h.symm
    have e : (fun y => if y = x then some (Value.bytes p.toArray t) else m' y) = fun y => if y = x then some (.bytes p.toArray t) else if stored.contains y then m' y else m₀ y := by
      funext z
      by_cases h1 : z = x
      · simp [h1]
      · simp only [if_neg h1]
        cases h2 : stored.contains z with
        | true => rw [if_pos rfl]
        | false => rw [if_neg Bool.false_ne_true]; exact hm z h1 h2
    rw [e] at F₂
    refine wpAny_mono (turn g i p t rr n m' h₂ _ (news ++ [(I, oI)]) hG' hpt hP hn2 F₂ N₂) (fun f s₃ h₃ => ?_) fun _ _ e => e
    have fin : ∀ tkx, MyEnd G env.locals x stored m₀ D2 q r D (listOf (bytesL items).toArray 0) o1 o2 (news ++ [(I, oI)]) (P (i + 1)) { s with heap := h₂, toks := tkx } s₃ → ∃ m, m < items.length + 1 - i ∧ ∃ g h' tk m' i rr n, s₃ = { s with heap := h', toks := tk } ∧ G g ∧ h'.IsListIter I D2 i ∧ Fr g env.locals h' m' ∧ News g env.locals h' (Led4 D2 q r D (listOf (bytesL items).toArray 0) o1 o2 rr n news) ∧ g.get? I = none ∧ P i rr ∧ (∀ z, z ≠ x → stored.contains z = false → m' z = m₀ z) ∧ i ≤ items.length ∧ m = items.length + 1 - i := by
      rintro tkx ⟨g', h'', tk'', rr', n', m'', e', hG'', hP'', F'', hm'', N''⟩
      have hI'' := N'' (I, oI) (by simp [Led4])
      exact ⟨items.length + 1 - (i + 1), by omega, g', h'', tk'', m'', i + 1, rr', n', e', hG'', ⟨oI, hI''.1, hoI'⟩, F'', fun p hp => N'' p (led_mem hp), hI''.2.2, hP'', hm'', hlt, rfl⟩
    cases f with
    | ret v => exact h₃
    | brk => exact h₃
    | cont => exact fin _ h₃
    | next => exact fin _ h₃
  · have hin : i = items.length := by omega
    subst hin
    refine W.done _ _ _ ⟨hit, hls⟩ fun h₁ tk₁ hk₁ => wpAny_execs_nil ?_
    obtain ⟨F₁, N₁⟩ := next h₁ hk₁
    refine done g rr n m' h₁ tk₁ hG' hP ?_ N₁
    have e : (fun y => if y = x then m' y else if stored.contains y then m' y else m₀ y) = m' := by
      funext z
      by_cases h1 : z = x
      · simp [h1]
      · simp only [if_neg h1]
        cases h2 : stored.contains z with
        | true => rw [if_pos rfl]
        | false => rw [if_neg Bool.false_ne_true]; exact (hm z h1 h2).symm
    rw [e]
    exact F₁
/-- the loop, from its iterator on -/
theorem loop_items {px : Pos} (G : Heap → Prop) {g0 : Heap} {items : List (List UInt8 × Tok)} {D2 q r D : Addr} {o1 o2 : Obj} {news : List (Addr × Obj)} {m₀ : Str → Option Value} {r0 : List (List UInt8 × Tok)} {n0 : Nat} (stored : List Str) (P : Nat → List (List UInt8 × Tok) → Prop)
    (hx : env.kindOf x = some .local) (hp : (env.scope.kind == .class || (env.scope.kind == .module && env.locals != env.globals)) = false)
    (hh : A.handled = none) (hG : G g0) (F : Fr g0 env.locals s.heap m₀) (N : News g0 env.locals s.heap (Led4 D2 q r D (listOf (bytesL items).toArray 0) o1 o2 r0 n0 news))
    (hne : ∀ p ∈ news, p.1 ≠ r) (hp0 : P 0 r0) (hE : PassesOwn (model prog w) A env E)
    (turn : ∀ g i p t rr n (u : Str → Option Value) h tk tl, G g → items[i]? = some (p, t) → P i rr → (∀ e ∈ tl, e.1 ≠ r) →
      Fr g env.locals h (fun y => if y = x then some (.bytes p.toArray t) else if stored.contains y then u y else m₀ y) →
      News g env.locals h (Led4 D2 q r D (listOf (bytesL items).toArray 0) o1 o2 rr n tl) →
      wpAny (model prog w) A (execs body env) (MyPost G env.locals x stored m₀ D2 q r D (listOf (bytesL items).toArray 0) o1 o2 tl (P (i + 1)) { s with heap := h, toks := tk } Q) E { s with heap := h, toks := tk })
    (done : ∀ g rr n (u : Str → Option Value) h tk, G g → P items.length rr → Fr g env.locals h (fun y => if y = x then u y else if stored.contains y then u y else m₀ y) →
      News g env.locals h (Led4 D2 q r D (listOf (bytesL items).toArray 0) o1 o2 rr n news) → Q .next { s with heap := h, toks := tk }) :
    wpAny (model prog w) A (pyIter (.ref D2)) (fun it s₂ => codeAny (model prog w) A (.forLoop (.Name x px) it body [] env) (fun r s' => match r with | .ok f => Q f s' | .error e => cameBackBy (model prog w) A env E e s') s₂) E s := by
  have hls : s.heap.IsList D2 (bytesL items).toArray := ⟨_, (N _ (.head _)).1, rfl, 0, rfl⟩
  refine wpAny_pyIter_list hls ?_
  have lt : ∀ p ∈ Led4 D2 q r D (listOf (bytesL items).toArray 0) o1 o2 r0 n0 news, p.1 ≠ s.heap.objs.size := fun p hp => Nat.ne_of_lt (Heap.lt_size (N p hp).1)
  refine forLoop_items (s := { s with heap := s.heap.push { cls := .type "list_iterator", data := .fields #[.ref D2, .int 0 0] } }) G stored P hx hp hh hG (F.push _) (fun p hp => ⟨Heap.get?_push_of_some _ (N p hp).1, (N p hp).2⟩)
    ⟨_, Heap.get?_push_size _ rfl, rfl, rfl⟩ (Nat.ne_of_gt F.ns.lt) (next_is_new F) (fun p hp => lt p (by simp [Led4, hp])) ⟨lt (D2, listOf (bytesL items).toArray 0) (by simp [Led4]), lt (q, o1) (by simp [Led4]), lt (r, listOf (bytesL r0).toArray n0) (by simp [Led4]), lt (D, o2) (by simp [Led4])⟩ hne hp0 ?_ ?_
  · intro g i p t rr n u h tk tl a1 a2 a3 a4 a5 a6
    exact wpAny_passesOwn hE (turn g i p t rr n u h tk tl a1 a2 a3 a4 a5 a6)
  · intro g rr n u h tk a1 a2 a3 a4
    exact done g rr n u h tk a1 a2 a3 a4
theorem picked_upto (p : List UInt8) (k : Nat) : KBy.picked p.toArray none (some (k : Int)) = (p.take k).toArray := by
  rw [KBc.picked_eq]
  show ((p.drop 0).take (clipAt p.length (k : Int) - 0)).toArray = _
  rw [clipAt_nat, List.drop_zero, Nat.sub_zero, kmk_take_min]
theorem picked_from (p : List UInt8) (k : Nat) : KBy.picked p.toArray (some (k : Int)) none = (p.drop k).toArray := by
  rw [KBc.picked_eq]
  show ((p.drop (clipAt p.length (k : Int))).take (p.length - clipAt p.length (k : Int))).toArray = _
  rw [clipAt_nat, List.take_of_length_le (by rw [List.length_drop]; omega), kmk_drop_min]
section
variable {value slice : PySem.Expr} {t u : Tok} {L : Addr} {m : PySem.Str → Option Value} {news : List (Addr × Obj)} {Q : Value → Shared → Prop}
theorem slice_upto {p : List UInt8} {k : Nat} (hF : Fr h₀ L s.heap m) (hN : News h₀ L s.heap news) (hz : p.length ≤ 100)
    (h : ∀ h' t' k', Fr h₀ L h' m → News h₀ L h' news → Q (.bytes (p.take k).toArray t') { s with heap := h', toks := k' })
    (hs : subscripted slice false (.bytes p.toArray t) (.ref s.heap.objs.size) = operate [.ref s.heap.objs.size, .bytes p.toArray t] (getItem (.bytes p.toArray t) (.ref s.heap.objs.size)))
    (ht : ∀ r, letTemporaryGo value (.bytes p.toArray t) r = pure ()) :
    wpAny (model prog w) A (subscriptTail value slice (.bytes p.toArray t) (.ref s.heap.objs.size)) Q E { s with heap := s.heap.push { cls := .type "slice", data := .fields #[.none, .int (k : Int) u, .none] } } :=
  KBc.slice_K hF hN (b := p.toArray) rfl .none (.int _ _) (by rw [KBw.ints_length, List.size_toArray]; omega) (fun h' t' k' F' N' _ => by rw [picked_upto]; exact h h' t' k' F' N') hs ht
theorem slice_from {p : List UInt8} {k : Nat} (hF : Fr h₀ L s.heap m) (hN : News h₀ L s.heap news) (hz : p.length ≤ 100)
    (h : ∀ h' t' k', Fr h₀ L h' m → News h₀ L h' news → Q (.bytes (p.drop k).toArray t') { s with heap := h', toks := k' })
    (hs : subscripted slice false (.bytes p.toArray t) (.ref s.heap.objs.size) = operate [.ref s.heap.objs.size, .bytes p.toArray t] (getItem (.bytes p.toArray t) (.ref s.heap.objs.size)))
    (ht : ∀ r, letTemporaryGo value (.bytes p.toArray t) r = pure ()) :
    wpAny (model prog w) A (subscriptTail value slice (.bytes p.toArray t) (.ref s.heap.objs.size)) Q E { s with heap := s.heap.push { cls := .type "slice", data := .fields #[.int (k : Int) u, .none, .none] } } :=
  KBc.slice_K hF hN (b := p.toArray) rfl (.int _ _) .none (by rw [KBw.ints_length, List.size_toArray]; omega) (fun h' t' k' F' N' _ => by rw [picked_from]; exact h h' t' k' F' N') hs ht
end
theorem push_bytesL (rr : List (List UInt8 × Tok)) (b : List UInt8) (t : Tok) : (bytesL rr).toArray.push (.bytes b.toArray t) = (bytesL (rr ++ [(b, t)])).toArray := by
  apply Array.ext'
  simp [bytesL]
theorem app_bytes {L : Addr} {m : PySem.Str → Option Value} {news news' : List (Addr × Obj)} {Q : Value → Shared → Prop} {q l : Addr} {b : List UInt8} {t : Tok} {rr : List (List UInt8 × Tok)} {n : Nat} (F : Fr h₀ L s.heap m) (N : News h₀ L s.heap news) (hm : (q, LA.boundApp l) ∈ news)
    (U : Upd l (listOf (bytesL rr).toArray n) (listOf (bytesL (rr ++ [(b, t)])).toArray (n + 1)) news news') (hz : rr.length ≤ 1000)
    (h : ∀ h', Fr h₀ L h' m → News h₀ L h' news' → Q .none { s with heap := h' }) : wpAny (model prog w) A (call (.ref q) [.bytes b.toArray t]) Q E s := by
  rw [← push_bytesL] at U
  exact LA.call_app F N hm U (by rw [List.size_toArray, bytesL_length, sizeLine_eq]; omega) h
theorem item_len {x : List UInt8} {p0 : List UInt8} {items : List (List UInt8 × Tok)} {i : Nat} {p : List UInt8} {t : Tok} (hz : x.length ≤ 100) (hsp : BR.splitPct x = p0 :: items.map (·.1)) (hi : items[i]? = some (p, t)) : p.length ≤ 100 := by
  have h1 : p ∈ BR.splitPct x := by
    rw [hsp]
    exact .tail _ (List.mem_map.mpr ⟨(p, t), List.mem_of_getElem? hi, rfl⟩)
  have := BR.splitPct_sizes x p h1
  omega
end
end Mine
namespace Mine
open PySem PySem.W PyProof.Rows PySem.Spec PySem.Calls
/-- what a return hands on where the frames below may have turned -/
def Back (A₀ : Around) (base : Heap) (outer : List Env) (K : Frag) (p : Program) (loose : List Str) (mean : ExcName → Option Value) (mg mb : Str → Option Value) (h₀ : Heap) (L : Addr) (m : Str → Option Value) (news : List (Addr × Obj)) (h' : Heap) : Prop :=
  ∃ h₀', KtsTurn (outer.filterMap (·.frame)) h₀ h₀' ∧ Fr h₀' L h' m ∧ News h₀' L h' news ∧ Below A₀ base outer h₀' ∧ K.In h₀' ∧ Top p loose mean mg mb h₀' ∧ KtsDicts (outer.filterMap (·.frame)) h₀'
def LeaveT (fs : List Addr) (A₀ : Around) (base : Heap) (outer : List Env) (K : Frag) (p : Program) (loose : List Str) (mean : ExcName → Option Value) (mg mb : Str → Option Value) (h₀ : Heap) (L : Addr) (m : Str → Option Value) (g : Heap) (R : Result → Shared → Prop) (v : Value) (s' : Shared) : Prop :=
  ∃ g' L' m' news', KtsTurn fs g g' ∧ Fr g' L' s'.heap m' ∧ News g' L' s'.heap news' ∧ (Back A₀ base outer K p loose mean mg mb h₀ L m news' s'.heap → R (.ok (.ret v)) s')
theorem leaveT_ {fs : List Addr} {A₀ : Around} {base : Heap} {outer : List Env} {K : Frag} {p : Program} {loose : List Str} {mean : ExcName → Option Value} {mg mb : Str → Option Value} {h₀ g g' : Heap} {L L' : Addr} {m m' : Str → Option Value} {news' : List (Addr × Obj)} {R : Result → Shared → Prop} {v : Value} {s' : Shared}
    (F' : Fr g' L' s'.heap m') (N' : News g' L' s'.heap news') (T : KtsTurn fs g g') (k : Back A₀ base outer K p loose mean mg mb h₀ L m news' s'.heap → R (.ok (.ret v)) s') : LeaveT fs A₀ base outer K p loose mean mg mb h₀ L m g R v s' := ⟨g', L', m', news', T, F', N', k⟩
theorem mem_env {env : Env} {outer : List Env} {L b : Addr} (hf : env.frame = some L) (hm : b ∈ (env :: outer).filterMap (·.frame)) : b = L ∨ b ∈ outer.filterMap (·.frame) := by
  obtain ⟨e, he, hb⟩ := List.mem_filterMap.mp hm
  rcases List.mem_cons.mp he with rfl | he
  · exact .inl (Option.some.inj (hb.symm.trans hf))
  · exact .inr (List.mem_filterMap.mpr ⟨e, he, hb⟩)
section
variable {prog : Program} {w : World} {A₀ A : Around} {s : Shared} {base h₀ g₀ : Heap} {outer : List Env} {L : Addr} {m : Str → Option Value} {env : Env} {news : List (Addr × Obj)} {K : Frag} {p : Program} {loose : List Str} {mean : ExcName → Option Value} {mg mb : Str → Option Value}
    {R : Result → Shared → Prop} {name qual : Str} {params : Arguments} {body : List Stmt} {scope : Scope} {dV kV doc pm cdv ct oc : Value} {an od : Option Addr} {osl : Array (Option Value)} {f : Addr} {args : Args} {binds : List (Str × Value)}
theorem enterX (B : Below A₀ base outer h₀) (F : Fr h₀ L s.heap m) (N : News h₀ L s.heap news) (hA : A.frames = some (env :: outer)) (hf : env.frame = some L) (hck : env.scope.kind = .function) :
    ∃ oL es ep, (hideAll s.heap (news.map (·.1))).get? L = some oL ∧ oL.data = .dict es ep ∧ (∀ h', h'.get? L = some oL → Heap.Ns h' L m) ∧ (∀ (sl : Array (Option Value)) h', h'.get? L = some { oL with slots := sl } → Heap.Ns h' L m) ∧
      h₀.StaysIn (hideAll s.heap (news.map (·.1))) ∧ Below A base (env :: outer) (hideAll s.heap (news.map (·.1))) := by
  have nm : ∀ b o, h₀.get? b = some o → b ∉ news.map (·.1) := fun b o e q => by
    obtain ⟨p, hp, rfl⟩ := List.mem_map.mp q
    rw [(N p hp).2.2] at e; cases e
  have st : h₀.StaysIn (hideAll s.heap (news.map (·.1))) := fun b o e => hideAll_get _ (F.keep b o e) (nm b o e)
  obtain ⟨oL, es, ep, hL, hLd, hLk, hLf⟩ := F.ns
  have nL : L ∉ news.map (·.1) := fun q => by
    obtain ⟨p, hp, e⟩ := List.mem_map.mp q
    exact (N p hp).2.1 e
  have hLg := hideAll_get (news.map (·.1)) hL nL
  have hnew : base.get? L = none := by
    cases hq : base.get? L with
    | none => rfl
    | some o => exact absurd (Nat.lt_of_lt_of_le (Heap.lt_size (B.stays L o hq)) F.above) (Nat.lt_irrefl _)
  refine ⟨oL, es, ep, hLg, hLd, fun h' e => ⟨oL, es, ep, e, hLd, hLk, hLf⟩, fun sl h' e => ⟨_, es, ep, e, hLd, hLk, hLf⟩, st, ⟨hA, fun b o e => st b o (B.stays b o e), ?_⟩⟩
  refine ⟨by rw [hck]; decide, ⟨L, oL, hf, hnew, hLg, by rw [hLd]; intro vs h; cases h⟩, ?_⟩
  exact funFrames_hideAll (B.frames.of_keeps fun b o e _ => ⟨o, F.keep b o e, rfl⟩) fun e he b hb hf' => by
      obtain ⟨L₁, o₁, hf₁, ho₁⟩ := funFrames_in B.frames e he
      rw [hf₁] at hf'
      exact nm L₁ o₁ ho₁ ((Option.some.inj hf' : L₁ = b) ▸ hb)
theorem code_defT (B : Below A₀ base outer h₀) (F : Fr h₀ L s.heap m) (X₀ : K.In h₀) (N : News h₀ L s.heap news) (T : Top p loose mean mg mb h₀) (XB : K.In base) (TB : Top p loose mean mg mb base) (D : KtsDicts (outer.filterMap (·.frame)) h₀)
    (hA : A.frames = some (env :: outer)) (hf : env.frame = some L) (hck : env.scope.kind = .function)
    (ho : K.lookup f = some ⟨oc, od, .func (fnOf name qual params body scope dV kV doc pm an cdv ct), osl⟩) (hcd : codeIn K cdv qual = true) (hroom : A.depth < recursionLimit)
    (hbind : BindsTo s (fnOf name qual params body scope dV kV doc pm an cdv ct) args binds) (hloc : ∀ y ∈ binds, scope.names.lookup y.1 = some .local)
    (h : ∀ g L' h₁, Fr h₀ L g m → Fr g L' h₁ (fun y => binds.reverse.lookup y) → News g L' h₁ news → Below A base (env :: outer) g → K.In g → Top p loose mean mg mb g → KtsDicts ((env :: outer).filterMap (·.frame)) g →
      wpAny (model prog w) (A.deeper (envOf qual scope L' f cdv)) (execs body (envOf qual scope L' f cdv))
        (fun fl s' => LeaveT ((env :: outer).filterMap (·.frame)) A₀ base outer K p loose mean mg mb h₀ L m g R (match fl with | .ret v => v | _ => .none) s')
        (fun e s' => wpAny (model prog w) (A.deeper (envOf qual scope L' f cdv)) (leaving (envOf qual scope L' f cdv) e) (fun _ s'' => R (.error e) s'') (fun e' s'' => R (.error e') s'') s')
        { s with heap := h₁, toks := s.toks + binds.length })
    (hco : scope.isCoroutine = false) (hgen : scope.isGenerator = false) (hk : scope.kind = .function)
    (hcell : ∀ x ∈ scope.names, x.2 ≠ .cell) : codeAny (model prog w) A (.call (.ref f) args) R s := by
  have X := X₀.keeps F.keep
  refine codeAny_call_def (fd := fnOf name qual params body scope dV kV doc pm an cdv ct) (body := body) (binds := binds) hroom (X _ _ ho) rfl (T.nolimit.keeps F.keep) (codeRec_of X hcd) rfl hbind hcell hloc (fun h₁ hns hk₁ => ?_) hco hgen hk
  obtain ⟨oL, es, ep, hLg, hLd, hN, hNs, st, B₂⟩ := enterX B F N hA hf hck
  refine wpAny_mono (h _ s.heap.objs.size h₁ ⟨hN _ hLg, st, F.above⟩ ⟨hns, fun b o e => hk₁ b o (of_hideAll _ e), Nat.le_of_eq (hideAll_size _ _)⟩
    (fun p hp => ⟨hk₁ _ _ (N p hp).1, Nat.ne_of_lt (Heap.lt_size (N p hp).1), hideAll_none _ (List.mem_map_of_mem hp)⟩) B₂ (X₀.keeps st) (T.keeps st) (fun b hb => by
      rcases mem_env hf hb with rfl | hb
      · exact ⟨oL, es, ep, hLg, hLd⟩
      · obtain ⟨o, es', n', ho', hd'⟩ := D b hb
        exact ⟨o, es', n', st b o ho', hd'⟩)) (fun fl s' hl => ?_) fun _ _ y => y
  have nL₀ : h₀.get? L = none := kts_self F
  obtain ⟨g', L', m', news', T', F', N', k⟩ := hl
  obtain ⟨sl, hs⟩ := T'.up hLg
  obtain ⟨T₁, S₁⟩ := kts_turn_at (h := s'.heap) (fs := outer.filterMap (·.frame)) (g := h₀)
    (fun b hb => by
      obtain ⟨_, o, ho', _⟩ := B.frames.mem hb
      exact ⟨o, ho'⟩)
    (fun b o e nmem => F'.keep b o (T'.other b o (st b o e) (fun q => by
      rcases mem_env hf q with z | z
      · rw [z, nL₀] at e
        cases e
      · exact nmem z)))
    (fun b o e hm => by
      obtain ⟨sl', hs'⟩ := T'.up (st b o e)
      exact ⟨sl', F'.keep _ _ hs'⟩)
  have B₃ : Below A₀ base outer (ktsHeap s'.heap (outer.filterMap (·.frame)) h₀) := ⟨B.stack, fun b o e => T₁.other b o (B.stays b o e) (fun hm => by
    rw [(B.frames.mem hm).1] at e
    cases e), B.frames.of_keeps fun b o e _ => by
    obtain ⟨sl', hs'⟩ := T₁.up e
    exact ⟨_, hs', rfl⟩⟩
  refine k ⟨_, T₁, ⟨hNs sl _ (F'.keep _ _ hs), S₁, by rw [T₁.size]; exact F.above⟩, (fun p hp => ⟨(N' p hp).1, fun q => ?_, ?_⟩), B₃, XB.keeps B₃.stays, TB.keeps B₃.stays, D.turn T₁⟩
  · have := (N' p hp).2.2; rw [q, hs] at this; cases this
  · refine T₁.none_ _ ?_
    cases q : h₀.get? p.1 with
    | none => rfl
    | some o =>
      obtain ⟨sl', hs'⟩ := T'.up (st _ _ q)
      have := (N' p hp).2.2
      rw [hs'] at this
      cases this
/-- where no frame stands below the caller's, nothing has turned -/
theorem Back.still {A₁ : Around} {h' : Heap} (b : Back A₁ base [] K p loose mean mg mb h₀ L m news h') : Fr h₀ L h' m ∧ News h₀ L h' news := by
  obtain ⟨h₀', T, F, N, _⟩ := b
  have up : ∀ b o, h₀.get? b = some o → h₀'.get? b = some o := fun b o e => T.other b o e (fun hm => nomatch hm)
  refine ⟨⟨F.ns, fun b o e => F.keep b o (up b o e), by rw [← T.size]; exact F.above⟩, fun p hp => ⟨(N p hp).1, (N p hp).2.1, ?_⟩⟩
  cases q : h₀.get? p.1 with
  | none => rfl
  | some o => have := (N p hp).2.2; rw [up _ _ q] at this; cases this
end
end Mine
namespace Mine
open PySem PySem.W PyProof.Rows
def itemOut (mp : Nat) (ba bb : Bool) (p : List UInt8) : List UInt8 :=
  match (if has mp (p.take 2).toArray = true then hexPair (p.take 2).toArray else none) with
  | some n => n.toUInt8 :: p.drop 2
  | none => (if (has 52 (p.take 2).toArray || !bb) = true then [37] else [37, 50, 53]) ++ (if (ba && has 52 (p.take 2).toArray) = true then ((p.take 2).map Builtin.Bytes.toUpper) ++ p.drop 2 else p)
def pdBytes (mp : Nat) (ba bb : Bool) (b : List UInt8) : List UInt8 := match BR.splitPct b with
  | [] => []
  | p0 :: ps => p0 ++ (ps.map (itemOut mp ba bb)).flatten
def PD (mp : Nat) (ba bb : Bool) (p0 : List UInt8) (items : List (List UInt8 × Tok)) (i : Nat) (rr : List (List UInt8 × Tok)) : Prop :=
  (1 + 2 * i ≤ rr.length ∧ rr.length ≤ 1 + 3 * i) ∧ (rr.map (·.1)).flatten = p0 ++ ((items.take i).map fun p => itemOut mp ba bb p.1).flatten
section
variable {mp : Nat} {ba bb : Bool} {p0 p a b c : List UInt8} {items rr : List (List UInt8 × Tok)} {i : Nat} {t ta tb tc : Tok}
theorem take_items (hi : items[i]? = some (p, t)) : items.take (i + 1) = items.take i ++ [(p, t)] := by
  rw [List.take_add_one, hi]; rfl
theorem PD.two (hP : PD mp ba bb p0 items i rr) (hi : items[i]? = some (p, t)) (h : a ++ b = itemOut mp ba bb p) : PD mp ba bb p0 items (i + 1) (rr ++ [(a, ta)] ++ [(b, tb)]) := by
  obtain ⟨⟨h1, h2⟩, h3⟩ := hP
  refine ⟨by simp only [List.length_append, List.length_cons, List.length_nil]; omega, ?_⟩
  rw [take_items hi]
  simp [h3, ← h]
theorem PD.three (hP : PD mp ba bb p0 items i rr) (hi : items[i]? = some (p, t)) (h : a ++ (b ++ c) = itemOut mp ba bb p) : PD mp ba bb p0 items (i + 1) (rr ++ [(a, ta)] ++ [(b, tb)] ++ [(c, tc)]) := by
  obtain ⟨⟨h1, h2⟩, h3⟩ := hP
  refine ⟨by simp only [List.length_append, List.length_cons, List.length_nil]; omega, ?_⟩
  rw [take_items hi]
  simp [h3, ← h]
theorem io_read {n : Nat} (h : has mp (p.take 2).toArray = true) (hp : hexPair (p.take 2).toArray = some n) : [n.toUInt8] ++ p.drop 2 = itemOut mp ba bb p := by
  simp [itemOut, h, hp]
theorem io_upper (h : has mp (p.take 2).toArray = false) (h5 : has 52 (p.take 2).toArray = true) (hb : ba = true) : [37] ++ (((p.take 2).map Builtin.Bytes.toUpper) ++ p.drop 2) = itemOut mp ba bb p := by
  subst hb; simp [itemOut, h, h5]
theorem io_hex (h : has mp (p.take 2).toArray = false) (h5 : has 52 (p.take 2).toArray = true) (hb : ba = false) : [37] ++ p = itemOut mp ba bb p := by
  subst hb; simp [itemOut, h, h5]
theorem io_lone (h : has mp (p.take 2).toArray = false) (h5 : has 52 (p.take 2).toArray = false) (hb : bb = false) : [37] ++ p = itemOut mp ba bb p := by
  subst hb; simp [itemOut, h, h5]
theorem io_stray (h : has mp (p.take 2).toArray = false) (h5 : has 52 (p.take 2).toArray = false) (hb : bb = true) : [37, 50, 53] ++ p = itemOut mp ba bb p := by
  subst hb; simp [itemOut, h, h5]
theorem io_ne : itemOut mp ba bb p ≠ [] := by
  unfold itemOut
  split
  · simp
  · split <;> simp
theorem io_len : (itemOut mp ba bb p).length ≤ p.length + 3 := by
  unfold itemOut
  split
  · simp only [List.length_cons, List.length_drop]; omega
  · rw [List.length_append]
    have h1 : (if (has 52 (p.take 2).toArray || !bb) = true then [(37 : UInt8)] else [37, 50, 53]).length ≤ 3 := by split <;> simp
    have h2 : (if (ba && has 52 (p.take 2).toArray) = true then ((p.take 2).map Builtin.Bytes.toUpper) ++ p.drop 2 else p).length = p.length := by
      split
      · rw [List.length_append, List.length_map, ← List.length_append, List.take_append_drop]
      · rfl
    omega
theorem flat_len {α : Type} {n : Nat} : ∀ (l : List (List α)), (∀ a ∈ l, a.length ≤ n) → l.flatten.length ≤ l.length * n
  | [], _ => by simp
  | a :: l, h => by
    have := flat_len l fun b hb => h b (.tail _ hb)
    have := h a (.head _)
    rw [List.flatten_cons, List.length_append, List.length_cons, Nat.succ_mul]
    omega
theorem pd_len {x : List UInt8} (hx : x.length ≤ 100) : (pdBytes mp ba bb x).length ≤ 11000 := by
  unfold pdBytes
  have hs := BR.splitPct_sizes x
  have hl := BR.splitPct_len x
  revert hs hl
  cases BR.splitPct x with
  | nil => intro _ _; simp
  | cons p0 ps =>
    intro hs hl
    show (p0 ++ (ps.map (itemOut mp ba bb)).flatten).length ≤ 11000
    have h0 := hs p0 (.head _)
    have h1 : (ps.map (itemOut mp ba bb)).flatten.length ≤ (ps.map (itemOut mp ba bb)).length * 103 := flat_len _ fun a ha => by
      obtain ⟨q, hq, rfl⟩ := List.mem_map.mp ha
      have := hs q (.tail _ hq)
      have := @io_len mp ba bb q
      omega
    rw [List.length_map] at h1
    rw [List.length_cons] at hl
    rw [List.length_append]
    have : ps.length * 103 ≤ 100 * 103 := Nat.mul_le_mul_right _ (by omega)
    omega
theorem PD.whole {x : List UInt8} (hP : PD mp ba bb p0 items items.length rr) (hsp : BR.splitPct x = p0 :: items.map (·.1)) : (rr.map (·.1)).flatten = pdBytes mp ba bb x := by
  rw [hP.2, List.take_length]
  unfold pdBytes
  rw [hsp]
  simp [List.map_map, Function.comp_def]
theorem PD.pos {x : List UInt8} (hsp : BR.splitPct x = p0 :: items.map (·.1)) (h : ((items.length : Nat) : Int) + 1 ≠ 1) : 0 < (pdBytes mp ba bb x).length := by
  unfold pdBytes
  rw [hsp]
  cases items with
  | nil => exact absurd rfl h
  | cons p ps =>
    have := List.length_pos_iff.mpr (@io_ne mp ba bb p.1)
    simp only [List.map_cons, List.flatten_cons, List.length_append]
    omega
end
section
variable {prog : Program} {w : World} {A : Around} {E : Value → Shared → Prop} {s : Shared} {h₀ : Heap} {L : Addr} {m : PySem.Str → Option Value} {news : List (Addr × Obj)} {Q : Value → Shared → Prop}
theorem join_bytesL {rr : List (List UInt8 × Tok)} {r : Addr} {n : Nat} {t : Tok} (N : News h₀ L s.heap news) (hm : (r, listOf (bytesL rr).toArray n) ∈ news) (hl : 2 ≤ rr.length) (hsz : (rr.map (·.1)).flatten.length ≤ sizeLine)
    (h : ∀ t' k, Q (.bytes ((rr.map (·.1)).flatten).toArray t') { s with toks := k }) : wpAny (model prog w) A (call (.builtin "bytes.join") [.bytes #[] t, .ref r]) Q E s := by
  have e : bytesL rr = BR.bytesValues (rr.map fun p => (p.1.toArray, p.2)) := by simp [bytesL, BR.bytesValues, Function.comp_def]
  have e2 : ((rr.map fun p => (p.1.toArray, p.2)).map fun p => p.1.toList) = rr.map (·.1) := by simp [Function.comp_def]
  have ho := (N _ hm).1
  rw [e] at ho
  refine BR.join ho (by rw [List.length_map]; exact hl) (by rw [e2]; exact hsz) ?_
  rw [e2]
  exact h
theorem join_B {rr : List (List UInt8 × Tok)} {r : Addr} {n : Nat} {t : Tok} {B : List UInt8} (N : News h₀ L s.heap news) (hm : (r, listOf (bytesL rr).toArray n) ∈ news) (hl : 2 ≤ rr.length) (e : (rr.map (·.1)).flatten = B) (hsz : B.length ≤ 11000)
    (h : ∀ t' k, Q (.bytes B.toArray t') { s with toks := k }) : wpAny (model prog w) A (call (.builtin "bytes.join") [.bytes #[] t, .ref r]) Q E s := by
  subst e
  exact join_bytesL N hm hl (by rw [sizeLine_eq]; omega) h
end
theorem myEnd_ {Q : Flow → Shared → Prop} {G : Heap → Prop} {L : Addr} {x : Str} {stored : List Str} {m₀ m' : Str → Option Value} {D2 q r D : Addr} {o0 o1 o2 : Obj} {tl : List (Addr × Obj)} {P : List (List UInt8 × Tok) → Prop} {s : Shared} {g h' : Heap} {tk' : Nat} {rr : List (List UInt8 × Tok)} {n : Nat}
    (F : Fr g L h' m') (N : News g L h' (Led4 D2 q r D o0 o1 o2 rr n tl)) (hG : G g) (hP : P rr) (hm : ∀ z, z ≠ x → stored.contains z = false → m' z = m₀ z) :
    MyPost G L x stored m₀ D2 q r D o0 o1 o2 tl P s Q .next { s with heap := h', toks := tk' } := ⟨g, h', tk', rr, n, m', rfl, hG, hP, F, hm, N⟩
end Mine
namespace Mine
open PySem PySem.W PyProof.Rows
def GetC (mp : Nat) : Prop := ∀ {w : World} {loose : List Str} {mean : ExcName → Option Value} {mg mb : Str → Option Value} {news : List (Addr × Obj)} {b : Array UInt8} {bt : Tok}
  {dp un : Nat} {gd : Option (List Code)} {cn : Str} {cs : Scope} {a : Addr} {ccd : Value} {cl : List (Str × Addr)} {outer : List Env} {A₀ : Around} {base h₀ : Heap} {L : Addr} {m : Str → Option Value} {s : Shared} {Q E : Value → Shared → Prop} {vx vy : Str} {px py : Pos}
    (_ : At 3 w loose mean mg mb dp un cs outer A₀ base h₀) (_ : Fr h₀ L s.heap m) (_ : News h₀ L s.heap news) (_ : b.size ≤ 100)
    (_ : ∀ n t h' tk', has mp b = true → hexPair b = some n → Fr h₀ L h' m → News h₀ L h' news → Q (.bytes #[n.toUInt8] t) { s with heap := h', toks := tk' })
    (_ : ∀ e h' tk' g, has mp b = false → Fr h₀ L g m → Below (Ar none dp un gd cn cs L a ccd cl outer) base (envX cn cs L a ccd cl :: outer) g → (tp.heap_39 w.params).In g → Top tp.view_39 loose mean mg mb g → RaisedSN base g (envX cn cs L a ccd cl :: outer) e (Value.type "KeyError") news h' → g.UpToSlots h' → E (.ref e) { s with heap := h', toks := tk' }),
    wpAny (model Challenge.rw_fe0139_01.row.prog w) (Ar none dp un gd cn cs L a ccd cl outer) (subscriptTail (.Name vx px) (.Name vy py) (.ref mp) (.bytes b bt)) Q E s
theorem GetC.at {mp : Nat} (G : GetC mp) {w : World} {loose : List Str} {mean : ExcName → Option Value} {mg mb : Str → Option Value} {news : List (Addr × Obj)} {b : Array UInt8} {bt : Tok}
  {dp un : Nat} {gd : Option (List Code)} {cn : Str} {cs : Scope} {a : Addr} {ccd : Value} {cl : List (Str × Addr)} {outer : List Env} {A₀ : Around} {base h₀ : Heap} {L : Addr} {m : Str → Option Value} {s : Shared} {Q E : Value → Shared → Prop} {vx vy : Str} {px py : Pos}
    (P : At 3 w loose mean mg mb dp un cs outer A₀ base h₀) (F : Fr h₀ L s.heap m) (N : News h₀ L s.heap news) (hb : b.size ≤ 100)
    (hret : ∀ n t h' tk', has mp b = true → hexPair b = some n → Fr h₀ L h' m → News h₀ L h' news → Q (.bytes #[n.toUInt8] t) { s with heap := h', toks := tk' })
    (hex : ∀ e h' tk' g, has mp b = false → Fr h₀ L g m → Below (Ar none dp un gd cn cs L a ccd cl outer) base (envX cn cs L a ccd cl :: outer) g → (tp.heap_39 w.params).In g → Top tp.view_39 loose mean mg mb g → RaisedSN base g (envX cn cs L a ccd cl :: outer) e (Value.type "KeyError") news h' → g.UpToSlots h' → E (.ref e) { s with heap := h', toks := tk' }) :
    wpAny (model Challenge.rw_fe0139_01.row.prog w) (Ar none dp un gd cn cs L a ccd cl outer) (subscriptTail (.Name vx px) (.Name vy py) (.ref mp) (.bytes b bt)) Q E s := G P F N hb hret hex
theorem getC_52 : GetC 52 := by
  intro w loose mean mg mb news b bt dp un gd cn cs a ccd cl outer A₀ base h₀ L m s Q E vx vy px py P F N hb hret hex
  obtain ⟨B, X, T, hk, hdp, hun⟩ := P
  revert X
  k_fill
  intro X
  k_steps
  refine getitem_52 ⟨B, X, T, hk, ?_, ?_⟩ F N hb hret (fun e h' tk' g a1 a2 a3 => hex e h' tk' g a1 a2 ⟨a3.stack, a3.stays, a3.frames⟩)
  · ktr_room
  · ktr_units
theorem getC_55 : GetC 55 := by
  intro w loose mean mg mb news b bt dp un gd cn cs a ccd cl outer A₀ base h₀ L m s Q E vx vy px py P F N hb hret hex
  obtain ⟨B, X, T, hk, hdp, hun⟩ := P
  revert X
  k_fill
  intro X
  k_steps
  refine getitem_55 ⟨B, X, T, hk, ?_, ?_⟩ F N hb hret (fun e h' tk' g a1 a2 a3 => hex e h' tk' g a1 a2 ⟨a3.stack, a3.stays, a3.frames⟩)
  · ktr_room
  · ktr_units
theorem getC_58 : GetC 58 := by
  intro w loose mean mg mb news b bt dp un gd cn cs a ccd cl outer A₀ base h₀ L m s Q E vx vy px py P F N hb hret hex
  obtain ⟨B, X, T, hk, hdp, hun⟩ := P
  revert X
  k_fill
  intro X
  k_steps
  refine getitem_58 ⟨B, X, T, hk, ?_, ?_⟩ F N hb hret (fun e h' tk' g a1 a2 a3 => hex e h' tk' g a1 a2 ⟨a3.stack, a3.stays, a3.frames⟩)
  · ktr_room
  · ktr_units
theorem getC_61 : GetC 61 := by
  intro w loose mean mg mb news b bt dp un gd cn cs a ccd cl outer A₀ base h₀ L m s Q E vx vy px py P F N hb hret hex
  obtain ⟨B, X, T, hk, hdp, hun⟩ := P
  revert X
  k_fill
  intro X
  k_steps
  refine getitem_61 ⟨B, X, T, hk, ?_, ?_⟩ F N hb hret (fun e h' tk' g a1 a2 a3 => hex e h' tk' g a1 a2 ⟨a3.stack, a3.stays, a3.frames⟩)
  · ktr_room
  · ktr_units
theorem getC_64 : GetC 64 := by
  intro w loose mean mg mb news b bt dp un gd cn cs a ccd cl outer A₀ base h₀ L m s Q E vx vy px py P F N hb hret hex
  obtain ⟨B, X, T, hk, hdp, hun⟩ := P
  revert X
  k_fill
  intro X
  k_steps
  refine getitem_64 ⟨B, X, T, hk, ?_, ?_⟩ F N hb hret (fun e h' tk' g a1 a2 a3 => hex e h' tk' g a1 a2 ⟨a3.stack, a3.stays, a3.frames⟩)
  · ktr_room
  · ktr_units
theorem getC_67 : GetC 67 := by
  intro w loose mean mg mb news b bt dp un gd cn cs a ccd cl outer A₀ base h₀ L m s Q E vx vy px py P F N hb hret hex
  obtain ⟨B, X, T, hk, hdp, hun⟩ := P
  revert X
  k_fill
  intro X
  k_steps
  refine getitem_67 ⟨B, X, T, hk, ?_, ?_⟩ F N hb hret (fun e h' tk' g a1 a2 a3 => hex e h' tk' g a1 a2 ⟨a3.stack, a3.stays, a3.frames⟩)
  · ktr_room
  · ktr_units
theorem getC_70 : GetC 70 := by
  intro w loose mean mg mb news b bt dp un gd cn cs a ccd cl outer A₀ base h₀ L m s Q E vx vy px py P F N hb hret hex
  obtain ⟨B, X, T, hk, hdp, hun⟩ := P
  revert X
  k_fill
  intro X
  k_steps
  refine getitem_70 ⟨B, X, T, hk, ?_, ?_⟩ F N hb hret (fun e h' tk' g a1 a2 a3 => hex e h' tk' g a1 a2 ⟨a3.stack, a3.stays, a3.frames⟩)
  · ktr_room
  · ktr_units
end Mine
namespace Mine
open PySem PySem.W PyProof.Rows
abbrev Ae (hv : Option Value) (dp un : Nat) (gd : Option (List Code)) (env : Env) (outer : List Env) : Around := { handled := hv, depth := dp, frames := some (env :: outer), guards := gd, units := un }
local macro_rules | `(tactic| k_all) => `(tactic| assumption)
local macro_rules | `(tactic| walk_at "getMethod bytes") => `(tactic| (k_here; first | (with_reducible refine BR.method_strip ?_) | (with_reducible refine BR.method_upper ?_) | (with_reducible refine BR.method_split ?_) | (with_reducible refine BR.method_join ?_)))
local macro_rules | `(tactic| walk_at "getMethod bytes") => `(tactic| (k_here; (with_reducible refine KBd.method ?_)))
local macro_rules | `(tactic| walk_at "getMethod str") => `(tactic| (k_here; (with_reducible refine method_encode ?_)))
local macro_rules | `(tactic| walk_at "call builtin:str.encode") => `(tactic| (k_here; (with_reducible show wpAny _ _ (call (Value.builtin "str.encode") [Value.str _ _, Value.str (PySem.Str.ofString "utf-8") _]) _ _ _); (refine BR.encode (by assumption) (Nat.le_trans (by assumption) (by rw [sizeLine_eq]; decide)) ?_); intro _ _))
local macro_rules | `(tactic| walk_at "call builtin:bytes.split") => `(tactic| (k_here; (with_reducible show wpAny _ _ (call (Value.builtin "bytes.split") [Value.bytes _ _, Value.bytes _ _]) _ _ _); (refine split_pct (by k_asm) (by k_asm) (by rw [List.size_toArray, List.length_map, Array.length_toList]; assumption) ?_); intro D' p0 t0 l' h' k' hsp F' N' l1; (have hl9 := split_len (by rw [List.size_toArray, List.length_map, Array.length_toList]; assumption) hsp); (try k_lt l1)))
local macro_rules | `(tactic| walk_at "call builtin:bytes.upper") => `(tactic| (k_here; (with_reducible show wpAny _ _ (call (Value.builtin "bytes.upper") [Value.bytes _ _]) _ _ _); (refine BR.upper (by rw [List.size_toArray, List.length_take, sizeLine_eq]; omega) ?_); intro _ _))
local macro_rules | `(tactic| walk_at "call builtin:len") => `(tactic| (k_here; (with_reducible show wpAny _ _ (call (Value.builtin "len") [Value.ref _]) _ _ _); (refine' len_bytesL ?N ?m ?z ?_; (case N => k_asm); (case m => k_mem); (case z => assumption); k_whole)))
local macro_rules | `(tactic| walk_at "subscriptTail Name Slice ref ref") => `(tactic| (k_here; (with_reducible show wpAny _ _ (subscriptTail _ (PySem.Expr.Slice _ _ none _) (Value.ref _) (Value.ref _)) _ _ _); k_dflt (refine' kmk_slice_lit ?F ?N ?l ?p ?q ?e ?_ ?s ?t ?z; (case F => k_asm); (case N => k_asm); (case l => kmk_list); (case p => kmk_part); (case q => kmk_part); (case e => exact slice1_eq _ _); (case s => with_unfolding_all rfl); (case t => kmk_pure); (case z => (rw [List.size_toArray, List.length_cons, bytesL_length, sizeLine_eq]; omega))); intro D' h' F' N' l1; (try k_lt l1); (try k_sweep)))
local macro_rules | `(tactic| walk_at "subscriptTail") => `(tactic| (k_here; (with_reducible show wpAny _ _ (subscriptTail _ (Expr.Slice none (some _) none _) (Value.bytes (List.toArray _) _) (Value.ref _)) _ _ _); (with_reducible rename Fr _ _ _ _ => F'); (with_reducible rename News _ _ _ _ => N'); (refine slice_upto (s := ⟨_, _, _, _, _⟩) F' N' (by assumption) ?_ (by with_unfolding_all rfl) (by intro _; with_unfolding_all rfl)); intro _ _ _ _ _))
local macro_rules | `(tactic| walk_at "subscriptTail") => `(tactic| (k_here; (with_reducible show wpAny _ _ (subscriptTail _ (Expr.Slice (some _) none none _) (Value.bytes (List.toArray _) _) (Value.ref _)) _ _ _); (with_reducible rename Fr _ _ _ _ => F'); (with_reducible rename News _ _ _ _ => N'); (refine slice_from (s := ⟨_, _, _, _, _⟩) F' N' (by assumption) ?_ (by with_unfolding_all rfl) (by intro _; with_unfolding_all rfl)); intro _ _ _ _ _))
local macro_rules | `(tactic| walk_at "getAttr ref") => `(tactic| (k_here; (with_reducible show wpAny _ _ (getAttr (Value.ref _) (PySem.Str.ofString "append") true) _ _ _); k_dflt (refine' LA.getAttr_app ?F ?N ?m ?_; (case F => k_asm); (case N => k_asm); (case m => k_mem)); intro q' h' F' N' l1; (try k_lt l1); (try k_sweep)))
local macro_rules | `(tactic| walk_at "callWith ref") => `(tactic| (k_here; (with_reducible show wpAny _ _ (callWith _ (Value.ref _) _ (backTo _ (starEach (_ :: _) _)) []) _ _ _); k_dflt (refine' LA.callWith_app ?N ?M ?_; (case N => k_asm); (case M => k_mem); k_whole)))
local macro_rules | `(tactic| walk_at "And") => `(tactic| ((with_reducible show LA.StandsApp _ _ _ ∧ _); k_dflt (refine ⟨LA.at_app (by k_asm) (by k_mem), ?_⟩); (try dsimp only [List.nil_append, List.cons_append])))
local macro_rules | `(tactic| walk_at "call ref") => `(tactic| (k_here; (with_reducible show wpAny _ _ (call (Value.ref _) [Value.bytes _ _]) _ _ _); k_dflt (refine' app_bytes ?F ?N ?m ?U ?z ?_; (case F => k_asm); (case N => k_asm); (case m => k_mem); (case U => k_upd); (case z => first | omega | ((simp only [List.length_append, List.length_cons, List.length_nil]); omega))); intro h' F' N'; (try k_sweep)))
local macro_rules | `(tactic| walk_at "exec For Name Subscript cons nil") => `(tactic| (k_here; (with_unfolding_all refine' wpAny_For ?_ ?hs; (case hs => (intro _; rfl)))))
local macro_rules | `(tactic| walk_at "call ref") => `(tactic| (k_here; (with_reducible show wpAny _ _ (call (Value.ref 36) [Value.ref 52, Value.bytes _ _]) _ _ _); k_dflt (refine' contains_52 ⟨?k1, ?k2, ?k3, ?k4, ?k5, ?k6⟩ ?F ?N ?hb ?_; (case F => k_asm); (case k1 => k_asm); (case N => k_asm); (case k2 => k_asm); (case k3 => k_asm); (case k4 => first | rfl | assumption); (case k5 => ktr_room); (case k6 => ktr_units); (case hb => (rw [List.size_toArray, List.length_take]; omega))); intro h' tk' F' N'; (try dsimp only); (try k_fold)))
local macro_rules | `(tactic| walk_at "call builtin:bytes.join") => `(tactic| (k_here; (with_reducible show wpAny _ _ (call (Value.builtin "bytes.join") [Value.bytes _ _, Value.ref _]) _ _ _); (refine' join_B ?N ?m ?l ?e ?z ?_; (case N => k_asm); (case m => k_mem); (case l => assumption); (case e => assumption); (case z => assumption); k_whole); intro t' k'))
local macro_rules | `(tactic| walk_at "call builtin:bytes.decode") => `(tactic| (k_here; (with_reducible show wpAny _ _ (call (Value.builtin "bytes.decode") [Value.bytes _ _, Value.str (PySem.Str.ofString "utf-8") _]) _ _ _); (refine BR.decode8 (by assumption) (by assumption) (Nat.le_trans (by assumption) (by rw [sizeLine_eq]; decide)) ?_); intro t' k'))
theorem not_in3 {a b c z : Str} (h : [a, b, c].contains z = false) : z ≠ a ∧ z ≠ b ∧ z ≠ c := by
  refine ⟨?_, ?_, ?_⟩ <;> (rintro rfl; simp at h)
local macro_rules | `(tactic| walk_at "my end") => `(tactic| ((rename Fr _ _ _ _ => Fq); (rename News _ _ _ _ => Nq); refine' myEnd_ Fq (cb_drop Nq (fun _ h => .tail _ h)) ⟨?g1, ?g2, ?g3, ?g4, ?g5⟩ ?P ?m; (case g1 => assumption); (case g2 => assumption); (case g3 => assumption); (case g4 => assumption); (case g5 => assumption); (case m => (intro z h1 h2; have h3 := not_in3 h2; (try rw [if_neg h3.2.2]); rw [if_neg h3.1, if_neg h3.2.1, if_neg h1, h2]; rfl)); (case' P => first | refine PD.three (by with_reducible assumption) (by with_reducible assumption) ?_ | refine PD.two (by with_reducible assumption) (by with_reducible assumption) ?_)))
local macro_rules | `(tactic| walk_at "subscriptTail") => `(tactic| (k_here; (with_reducible show wpAny _ _ (subscriptTail _ _ (Value.ref _) (Value.bytes _ _)) _ _ _); k_dflt (refine' GetC.at (by assumption) ⟨?k1, ?k2, ?k3, ?k4, ?k5, ?k6⟩ ?F ?N ?hb ?hr ?he; (case F => k_asm); (case k1 => k_asm); (case N => k_asm); (case k2 => k_asm); (case k3 => k_asm); (case k4 => first | rfl | assumption); (case k5 => ktr_room); (case k6 => ktr_units); (case hb => (rw [List.size_toArray, List.length_take]; omega)); (case' hr => (intro n' t' h' tk' hh' hp' F' N'; (try dsimp only); (try k_fold))); (case' he => (intro e' h' tk' g' hh' FG' B' X' T' R' U'; (try clear B' X' T'); (try dsimp only))))))
theorem pd {mp : Nat} {w : World} {loose : List Str} {mean : ExcName → Option Value} {mg mb : Str → Option Value} {news : List (Addr × Obj)} {x : Str} {xt : Tok} {ba bb : Bool}
  {dp un : Nat} {gd : Option (List Code)} {env : Env} {outer : List Env} {A₀ : Around} {base h₀ : Heap} {L : Addr} {m : Str → Option Value} {s : Shared} {R : Result → Shared → Prop} {args : Args} {y : Array Nat}
    (GC : GetC mp) (P : At 4 w loose mean mg mb dp un env.scope outer A₀ base h₀) (XB : (tp.heap_39 w.params).In base) (TB : Top tp.view_39 loose mean mg mb base) (D : KtsDicts (outer.filterMap (·.frame)) h₀) (hf : env.frame = some L)
    (F : Fr h₀ L s.heap m) (N : News h₀ L s.heap news) (hx : ∀ c ∈ x.cps.toList, c < 128) (hz : x.cps.size ≤ 100)
    (hbind : ∀ fd oc od osl, (tp.heap_39 w.params).lookup 127 = some ⟨oc, od, .func fd, osl⟩ → BindsTo s fd args [(Str.ofString "text", .str x xt), (Str.ofString "normalize_case", .bool ba), (Str.ofString "raise_subencoding_exc", .bool false), (Str.ofString "encode_stray_percents", .bool bb), (Str.ofString "_decode_map", .ref mp)])
    (hd : BR.Decodes Builtin._codecs.utf8Decoder (pdBytes mp ba bb (x.cps.toList.map fun c => c.toUInt8)).toArray y) (hyz : y.size ≤ 20000) (hone : (BR.splitPct (x.cps.toList.map fun c => c.toUInt8)).length = 1 → (⟨y⟩ : Str) = x)
    (hret : ∀ t h' tk', Back A₀ base outer (tp.heap_39 w.params) tp.view_39 loose mean mg mb h₀ L m news h' → R (.ok (.ret (.str ⟨y⟩ t))) { s with heap := h', toks := tk' }) :
    codeAny (model Challenge.rw_fe0139_01.row.prog w) (Ae none dp un gd env outer) (.call (.ref 127) args) R s := by
  obtain ⟨B, X, T, hk, hdp, hun⟩ := P
  revert X
  k_fill
  intro X
  k_dflt (refine' code_defT ?k1 ?k2 ?k3 ?k4 ?k5 XB TB D ?kA hf hk ?k6 ?k7 ?k8 ?k9 ?kB ?_ ?c2 ?c3 ?c4 ?c5; (case kA => exact rfl); (case k1 => k_asm); (case k2 => k_asm); (case k3 => k_asm); (case k4 => k_asm); (case k5 => k_asm); (case k6 => k_is); (case k7 => k_is); (case k8 => ktr_room); (case k9 => exact hbind _ _ _ _ (by k_is)); (case c5 => decide); (case kB => exact locs rfl); (case c2 => exact rfl); (case c3 => exact rfl); (case c4 => exact rfl); k_whole; intro g' L' h' FG' F' N' B' X' T' D'; (try dsimp only); (try k_lift B'); (try k_fold))
  k_steps
  · show LeaveT _ _ _ _ _ _ _ _ _ _ _ _ _ _ _ _ _
    have hxy : (⟨y⟩ : Str) = x := hone (by
      (rename BR.splitPct _ = _ => hsp)
      (rename _ + 1 = 1 => h1)
      refine (congrArg List.length hsp).trans ?_
      rw [List.length_cons, List.length_map]
      omega)
    subst hxy
    (rename Fr _ _ _ _ => Fq)
    (rename News _ _ _ _ => Nq)
    exact leaveT_ Fq (cb_drop Nq (fun _ h => .tail _ h)) .refl (hret _ _ _)
  rename_i D1 p0 t0 items _ _ hsp hD1 hl9 _ _ hone' _ r0 _ hr0 _ q0 _ hq0 _ D2 _ F9 N9 hD2
  have hne : ∀ p ∈ news, p.1 ≠ r0 := by
    intro p hp
    exact Nat.ne_of_lt (Nat.lt_trans (hD1 p hp) hr0.1)
  refine loop_items (r0 := [(p0, t0)]) (fun g => KtsTurn ((env :: outer).filterMap (·.frame)) g' g ∧ Below _ base (env :: outer) g ∧ (tp.heap_39 w.params).In g ∧ Top tp.view_39 loose mean mg mb g ∧ KtsDicts ((env :: outer).filterMap (·.frame)) g) [Str.ofString "hexpair", Str.ofString "rest", Str.ofString "pair_is_hex"] (PD mp ba bb p0 items) rfl rfl rfl ⟨.refl, B', X', T', D'⟩ F9 N9 hne ⟨⟨by simp, by simp⟩, by simp⟩ (by passes_own) ?_ ?_
  · intro g i p t rr n u h tk tl hG hi hP hne2 F3 N3
    obtain ⟨T3, B3, X3, Tp3, D3⟩ := hG
    clear B' X' T' D'
    have hpl := item_len (by rw [List.length_map, Array.length_toList]; exact hz) hsp hi
    have hi' := (List.getElem?_eq_some_iff.mp hi).1
    have hrl := hP.1
    dsimp only
    k_steps
    all_goals walk_at "my end"
    all_goals (first | (with_reducible refine io_read ?_ ?_) | (with_reducible refine io_upper ?_ ?_ ?_) | (with_reducible refine io_stray ?_ ?_ ?_) | (with_reducible refine io_lone ?_ (by with_reducible assumption) ?_) | (with_reducible refine io_hex ?_ (by with_reducible assumption) ?_))
    all_goals (with_reducible assumption)
  · intro g rr n u h tk hG hP F3 N3
    obtain ⟨T3, B3, X3, Tp3, D3⟩ := hG
    clear B' X' T' D'
    have hrl : 2 ≤ rr.length := by
      have := hP.1.1
      omega
    have hsp' : BR.splitPct (x.cps.toList.map fun c => c.toUInt8) = p0 :: items.map (·.1) := hsp
    have hfl := hP.whole hsp'
    have hpos : 0 < (pdBytes mp ba bb (x.cps.toList.map fun c => c.toUInt8)).toArray.size := by
      rw [List.size_toArray]
      exact PD.pos hsp' hone'
    have hpl := pd_len (mp := mp) (ba := ba) (bb := bb) (x := x.cps.toList.map fun c => c.toUInt8) (by rw [List.length_map, Array.length_toList]; exact hz)
    dsimp only
    k_steps
    (rename Fr _ _ _ _ => Fq)
    (rename News _ _ _ _ => Nq)
    exact leaveT_ Fq (cb_drop Nq (fun _ h => .tail _ (.tail _ (.tail _ (.tail _ h))))) T3 (hret _ _ _)
end Mine
namespace Mine
open PySem PySem.W PyProof.Rows
local macro_rules | `(tactic| k_all) => `(tactic| assumption)
theorem dec_70 {w : World} {loose : List Str} {mean : ExcName → Option Value} {mg mb : Str → Option Value} {news : List (Addr × Obj)} {x : Str} {xt : Tok} {ba bb : Bool}
  {dp un : Nat} {gd : Option (List Code)} {env : Env} {outer : List Env} {A₀ : Around} {base h₀ : Heap} {L : Addr} {m : Str → Option Value} {s : Shared} {R : Result → Shared → Prop} {args : Args} {y : Array Nat}
    (P : At 5 w loose mean mg mb dp un env.scope outer A₀ base h₀) (XB : (tp.heap_39 w.params).In base) (TB : Top tp.view_39 loose mean mg mb base) (D : KtsDicts (outer.filterMap (·.frame)) h₀) (hf : env.frame = some L)
    (F : Fr h₀ L s.heap m) (N : News h₀ L s.heap news) (hx : ∀ c ∈ x.cps.toList, c < 128) (hz : x.cps.size ≤ 100)
    (hbind : ∀ fd oc od osl, (tp.heap_39 w.params).lookup 79 = some ⟨oc, od, .func fd, osl⟩ → BindsTo s fd args [(Str.ofString "text", .str x xt), (Str.ofString "normalize_case", .bool ba), (Str.ofString "encode_stray_percents", .bool bb)])
    (hd : BR.Decodes Builtin._codecs.utf8Decoder (pdBytes 70 ba bb (x.cps.toList.map fun c => c.toUInt8)).toArray y) (hyz : y.size ≤ 20000) (hone : (BR.splitPct (x.cps.toList.map fun c => c.toUInt8)).length = 1 → (⟨y⟩ : Str) = x)
    (hret : ∀ t h' tk', Back A₀ base outer (tp.heap_39 w.params) tp.view_39 loose mean mg mb h₀ L m news h' → R (.ok (.ret (.str ⟨y⟩ t))) { s with heap := h', toks := tk' }) :
    codeAny (model Challenge.rw_fe0139_01.row.prog w) (Ae none dp un gd env outer) (.call (.ref 79) args) R s := by
  obtain ⟨B, X, T, hk, hdp, hun⟩ := P
  revert X
  k_fill
  intro X
  k_dflt (refine' code_defT ?k1 ?k2 ?k3 ?k4 ?k5 XB TB D ?kA hf hk ?k6 ?k7 ?k8 ?k9 ?kB ?_ ?c2 ?c3 ?c4 ?c5; (case kA => exact rfl); (case k1 => k_asm); (case k2 => k_asm); (case k3 => k_asm); (case k4 => k_asm); (case k5 => k_asm); (case k6 => k_is); (case k7 => k_is); (case k8 => ktr_room); (case k9 => exact hbind _ _ _ _ (by k_is)); (case c5 => decide); (case kB => exact locs rfl); (case c2 => exact rfl); (case c3 => exact rfl); (case c4 => exact rfl); k_whole; intro g' L' h' FG' F' N' B' X' T' D'; (try dsimp only); (try k_lift B'); (try k_fold))
  k_steps
  (rename Fr _ _ _ _ => Fq)
  (rename News _ _ _ _ => Nq)
  refine wpAny_call ?_
  refine pd (xt := xt) getC_70 ⟨B', X', T', rfl, ?_, ?_⟩ XB TB D' rfl Fq Nq hx hz ?_ hd hyz hone ?_
  · ktr_room
  · ktr_units
  · intro fd oc od osl h
    have e := h.symm.trans (show (tp.heap_39 w.params).lookup 127 = some ⟨_, _, .func (fnOf _ _ _ _ _ _ _ _ _ _ _ _), _⟩ by k_is)
    injection e with e
    injection e with e1 e2 e3 e4
    injection e3 with e3
    subst e3
    first | exact BindsTo.of_eq rfl | exact binds_K (X'.keeps Fq.keep) rfl (by k_is) rfl rfl rfl
  · intro t h2 tk2 bk
    obtain ⟨h3, Tq, F3, N3, _⟩ := bk
    exact leaveT_ F3 N3 Tq (hret _ _ _)
theorem dec_55 {w : World} {loose : List Str} {mean : ExcName → Option Value} {mg mb : Str → Option Value} {news : List (Addr × Obj)} {x : Str} {xt : Tok} {ba bb : Bool}
  {dp un : Nat} {gd : Option (List Code)} {env : Env} {outer : List Env} {A₀ : Around} {base h₀ : Heap} {L : Addr} {m : Str → Option Value} {s : Shared} {R : Result → Shared → Prop} {args : Args} {y : Array Nat}
    (P : At 5 w loose mean mg mb dp un env.scope outer A₀ base h₀) (XB : (tp.heap_39 w.params).In base) (TB : Top tp.view_39 loose mean mg mb base) (D : KtsDicts (outer.filterMap (·.frame)) h₀) (hf : env.frame = some L)
    (F : Fr h₀ L s.heap m) (N : News h₀ L s.heap news) (hx : ∀ c ∈ x.cps.toList, c < 128) (hz : x.cps.size ≤ 100)
    (hbind : ∀ fd oc od osl, (tp.heap_39 w.params).lookup 87 = some ⟨oc, od, .func fd, osl⟩ → BindsTo s fd args [(Str.ofString "text", .str x xt), (Str.ofString "normalize_case", .bool ba), (Str.ofString "encode_stray_percents", .bool bb)])
    (hd : BR.Decodes Builtin._codecs.utf8Decoder (pdBytes 55 ba bb (x.cps.toList.map fun c => c.toUInt8)).toArray y) (hyz : y.size ≤ 20000) (hone : (BR.splitPct (x.cps.toList.map fun c => c.toUInt8)).length = 1 → (⟨y⟩ : Str) = x)
    (hret : ∀ t h' tk', Back A₀ base outer (tp.heap_39 w.params) tp.view_39 loose mean mg mb h₀ L m news h' → R (.ok (.ret (.str ⟨y⟩ t))) { s with heap := h', toks := tk' }) :
    codeAny (model Challenge.rw_fe0139_01.row.prog w) (Ae none dp un gd env outer) (.call (.ref 87) args) R s := by
  obtain ⟨B, X, T, hk, hdp, hun⟩ := P
  revert X
  k_fill
  intro X
  k_dflt (refine' code_defT ?k1 ?k2 ?k3 ?k4 ?k5 XB TB D ?kA hf hk ?k6 ?k7 ?k8 ?k9 ?kB ?_ ?c2 ?c3 ?c4 ?c5; (case kA => exact rfl); (case k1 => k_asm); (case k2 => k_asm); (case k3 => k_asm); (case k4 => k_asm); (case k5 => k_asm); (case k6 => k_is); (case k7 => k_is); (case k8 => ktr_room); (case k9 => exact hbind _ _ _ _ (by k_is)); (case c5 => decide); (case kB => exact locs rfl); (case c2 => exact rfl); (case c3 => exact rfl); (case c4 => exact rfl); k_whole; intro g' L' h' FG' F' N' B' X' T' D'; (try dsimp only); (try k_lift B'); (try k_fold))
  k_steps
  (rename Fr _ _ _ _ => Fq)
  (rename News _ _ _ _ => Nq)
  refine wpAny_call ?_
  refine pd (xt := xt) getC_55 ⟨B', X', T', rfl, ?_, ?_⟩ XB TB D' rfl Fq Nq hx hz ?_ hd hyz hone ?_
  · ktr_room
  · ktr_units
  · intro fd oc od osl h
    have e := h.symm.trans (show (tp.heap_39 w.params).lookup 127 = some ⟨_, _, .func (fnOf _ _ _ _ _ _ _ _ _ _ _ _), _⟩ by k_is)
    injection e with e
    injection e with e1 e2 e3 e4
    injection e3 with e3
    subst e3
    first | exact BindsTo.of_eq rfl | exact binds_K (X'.keeps Fq.keep) rfl (by k_is) rfl rfl rfl
  · intro t h2 tk2 bk
    obtain ⟨h3, Tq, F3, N3, _⟩ := bk
    exact leaveT_ F3 N3 Tq (hret _ _ _)
theorem dec_58 {w : World} {loose : List Str} {mean : ExcName → Option Value} {mg mb : Str → Option Value} {news : List (Addr × Obj)} {x : Str} {xt : Tok} {ba bb : Bool}
  {dp un : Nat} {gd : Option (List Code)} {env : Env} {outer : List Env} {A₀ : Around} {base h₀ : Heap} {L : Addr} {m : Str → Option Value} {s : Shared} {R : Result → Shared → Prop} {args : Args} {y : Array Nat}
    (P : At 5 w loose mean mg mb dp un env.scope outer A₀ base h₀) (XB : (tp.heap_39 w.params).In base) (TB : Top tp.view_39 loose mean mg mb base) (D : KtsDicts (outer.filterMap (·.frame)) h₀) (hf : env.frame = some L)
    (F : Fr h₀ L s.heap m) (N : News h₀ L s.heap news) (hx : ∀ c ∈ x.cps.toList, c < 128) (hz : x.cps.size ≤ 100)
    (hbind : ∀ fd oc od osl, (tp.heap_39 w.params).lookup 95 = some ⟨oc, od, .func fd, osl⟩ → BindsTo s fd args [(Str.ofString "text", .str x xt), (Str.ofString "normalize_case", .bool ba), (Str.ofString "encode_stray_percents", .bool bb)])
    (hd : BR.Decodes Builtin._codecs.utf8Decoder (pdBytes 58 ba bb (x.cps.toList.map fun c => c.toUInt8)).toArray y) (hyz : y.size ≤ 20000) (hone : (BR.splitPct (x.cps.toList.map fun c => c.toUInt8)).length = 1 → (⟨y⟩ : Str) = x)
    (hret : ∀ t h' tk', Back A₀ base outer (tp.heap_39 w.params) tp.view_39 loose mean mg mb h₀ L m news h' → R (.ok (.ret (.str ⟨y⟩ t))) { s with heap := h', toks := tk' }) :
    codeAny (model Challenge.rw_fe0139_01.row.prog w) (Ae none dp un gd env outer) (.call (.ref 95) args) R s := by
  obtain ⟨B, X, T, hk, hdp, hun⟩ := P
  revert X
  k_fill
  intro X
  k_dflt (refine' code_defT ?k1 ?k2 ?k3 ?k4 ?k5 XB TB D ?kA hf hk ?k6 ?k7 ?k8 ?k9 ?kB ?_ ?c2 ?c3 ?c4 ?c5; (case kA => exact rfl); (case k1 => k_asm); (case k2 => k_asm); (case k3 => k_asm); (case k4 => k_asm); (case k5 => k_asm); (case k6 => k_is); (case k7 => k_is); (case k8 => ktr_room); (case k9 => exact hbind _ _ _ _ (by k_is)); (case c5 => decide); (case kB => exact locs rfl); (case c2 => exact rfl); (case c3 => exact rfl); (case c4 => exact rfl); k_whole; intro g' L' h' FG' F' N' B' X' T' D'; (try dsimp only); (try k_lift B'); (try k_fold))
  k_steps
  (rename Fr _ _ _ _ => Fq)
  (rename News _ _ _ _ => Nq)
  refine wpAny_call ?_
  refine pd (xt := xt) getC_58 ⟨B', X', T', rfl, ?_, ?_⟩ XB TB D' rfl Fq Nq hx hz ?_ hd hyz hone ?_
  · ktr_room
  · ktr_units
  · intro fd oc od osl h
    have e := h.symm.trans (show (tp.heap_39 w.params).lookup 127 = some ⟨_, _, .func (fnOf _ _ _ _ _ _ _ _ _ _ _ _), _⟩ by k_is)
    injection e with e
    injection e with e1 e2 e3 e4
    injection e3 with e3
    subst e3
    first | exact BindsTo.of_eq rfl | exact binds_K (X'.keeps Fq.keep) rfl (by k_is) rfl rfl rfl
  · intro t h2 tk2 bk
    obtain ⟨h3, Tq, F3, N3, _⟩ := bk
    exact leaveT_ F3 N3 Tq (hret _ _ _)
theorem dec_61 {w : World} {loose : List Str} {mean : ExcName → Option Value} {mg mb : Str → Option Value} {news : List (Addr × Obj)} {x : Str} {xt : Tok} {ba bb : Bool}
  {dp un : Nat} {gd : Option (List Code)} {env : Env} {outer : List Env} {A₀ : Around} {base h₀ : Heap} {L : Addr} {m : Str → Option Value} {s : Shared} {R : Result → Shared → Prop} {args : Args} {y : Array Nat}
    (P : At 5 w loose mean mg mb dp un env.scope outer A₀ base h₀) (XB : (tp.heap_39 w.params).In base) (TB : Top tp.view_39 loose mean mg mb base) (D : KtsDicts (outer.filterMap (·.frame)) h₀) (hf : env.frame = some L)
    (F : Fr h₀ L s.heap m) (N : News h₀ L s.heap news) (hx : ∀ c ∈ x.cps.toList, c < 128) (hz : x.cps.size ≤ 100)
    (hbind : ∀ fd oc od osl, (tp.heap_39 w.params).lookup 103 = some ⟨oc, od, .func fd, osl⟩ → BindsTo s fd args [(Str.ofString "text", .str x xt), (Str.ofString "normalize_case", .bool ba), (Str.ofString "encode_stray_percents", .bool bb)])
    (hd : BR.Decodes Builtin._codecs.utf8Decoder (pdBytes 61 ba bb (x.cps.toList.map fun c => c.toUInt8)).toArray y) (hyz : y.size ≤ 20000) (hone : (BR.splitPct (x.cps.toList.map fun c => c.toUInt8)).length = 1 → (⟨y⟩ : Str) = x)
    (hret : ∀ t h' tk', Back A₀ base outer (tp.heap_39 w.params) tp.view_39 loose mean mg mb h₀ L m news h' → R (.ok (.ret (.str ⟨y⟩ t))) { s with heap := h', toks := tk' }) :
    codeAny (model Challenge.rw_fe0139_01.row.prog w) (Ae none dp un gd env outer) (.call (.ref 103) args) R s := by
  obtain ⟨B, X, T, hk, hdp, hun⟩ := P
  revert X
  k_fill
  intro X
  k_dflt (refine' code_defT ?k1 ?k2 ?k3 ?k4 ?k5 XB TB D ?kA hf hk ?k6 ?k7 ?k8 ?k9 ?kB ?_ ?c2 ?c3 ?c4 ?c5; (case kA => exact rfl); (case k1 => k_asm); (case k2 => k_asm); (case k3 => k_asm); (case k4 => k_asm); (case k5 => k_asm); (case k6 => k_is); (case k7 => k_is); (case k8 => ktr_room); (case k9 => exact hbind _ _ _ _ (by k_is)); (case c5 => decide); (case kB => exact locs rfl); (case c2 => exact rfl); (case c3 => exact rfl); (case c4 => exact rfl); k_whole; intro g' L' h' FG' F' N' B' X' T' D'; (try dsimp only); (try k_lift B'); (try k_fold))
  k_steps
  (rename Fr _ _ _ _ => Fq)
  (rename News _ _ _ _ => Nq)
  refine wpAny_call ?_
  refine pd (xt := xt) getC_61 ⟨B', X', T', rfl, ?_, ?_⟩ XB TB D' rfl Fq Nq hx hz ?_ hd hyz hone ?_
  · ktr_room
  · ktr_units
  · intro fd oc od osl h
    have e := h.symm.trans (show (tp.heap_39 w.params).lookup 127 = some ⟨_, _, .func (fnOf _ _ _ _ _ _ _ _ _ _ _ _), _⟩ by k_is)
    injection e with e
    injection e with e1 e2 e3 e4
    injection e3 with e3
    subst e3
    first | exact BindsTo.of_eq rfl | exact binds_K (X'.keeps Fq.keep) rfl (by k_is) rfl rfl rfl
  · intro t h2 tk2 bk
    obtain ⟨h3, Tq, F3, N3, _⟩ := bk
    exact leaveT_ F3 N3 Tq (hret _ _ _)
theorem dec_64 {w : World} {loose : List Str} {mean : ExcName → Option Value} {mg mb : Str → Option Value} {news : List (Addr × Obj)} {x : Str} {xt : Tok} {ba bb : Bool}
  {dp un : Nat} {gd : Option (List Code)} {env : Env} {outer : List Env} {A₀ : Around} {base h₀ : Heap} {L : Addr} {m : Str → Option Value} {s : Shared} {R : Result → Shared → Prop} {args : Args} {y : Array Nat}
    (P : At 5 w loose mean mg mb dp un env.scope outer A₀ base h₀) (XB : (tp.heap_39 w.params).In base) (TB : Top tp.view_39 loose mean mg mb base) (D : KtsDicts (outer.filterMap (·.frame)) h₀) (hf : env.frame = some L)
    (F : Fr h₀ L s.heap m) (N : News h₀ L s.heap news) (hx : ∀ c ∈ x.cps.toList, c < 128) (hz : x.cps.size ≤ 100)
    (hbind : ∀ fd oc od osl, (tp.heap_39 w.params).lookup 111 = some ⟨oc, od, .func fd, osl⟩ → BindsTo s fd args [(Str.ofString "text", .str x xt), (Str.ofString "normalize_case", .bool ba), (Str.ofString "encode_stray_percents", .bool bb)])
    (hd : BR.Decodes Builtin._codecs.utf8Decoder (pdBytes 64 ba bb (x.cps.toList.map fun c => c.toUInt8)).toArray y) (hyz : y.size ≤ 20000) (hone : (BR.splitPct (x.cps.toList.map fun c => c.toUInt8)).length = 1 → (⟨y⟩ : Str) = x)
    (hret : ∀ t h' tk', Back A₀ base outer (tp.heap_39 w.params) tp.view_39 loose mean mg mb h₀ L m news h' → R (.ok (.ret (.str ⟨y⟩ t))) { s with heap := h', toks := tk' }) :
    codeAny (model Challenge.rw_fe0139_01.row.prog w) (Ae none dp un gd env outer) (.call (.ref 111) args) R s := by
  obtain ⟨B, X, T, hk, hdp, hun⟩ := P
  revert X
  k_fill
  intro X
  k_dflt (refine' code_defT ?k1 ?k2 ?k3 ?k4 ?k5 XB TB D ?kA hf hk ?k6 ?k7 ?k8 ?k9 ?kB ?_ ?c2 ?c3 ?c4 ?c5; (case kA => exact rfl); (case k1 => k_asm); (case k2 => k_asm); (case k3 => k_asm); (case k4 => k_asm); (case k5 => k_asm); (case k6 => k_is); (case k7 => k_is); (case k8 => ktr_room); (case k9 => exact hbind _ _ _ _ (by k_is)); (case c5 => decide); (case kB => exact locs rfl); (case c2 => exact rfl); (case c3 => exact rfl); (case c4 => exact rfl); k_whole; intro g' L' h' FG' F' N' B' X' T' D'; (try dsimp only); (try k_lift B'); (try k_fold))
  k_steps
  (rename Fr _ _ _ _ => Fq)
  (rename News _ _ _ _ => Nq)
  refine wpAny_call ?_
  refine pd (xt := xt) getC_64 ⟨B', X', T', rfl, ?_, ?_⟩ XB TB D' rfl Fq Nq hx hz ?_ hd hyz hone ?_
  · ktr_room
  · ktr_units
  · intro fd oc od osl h
    have e := h.symm.trans (show (tp.heap_39 w.params).lookup 127 = some ⟨_, _, .func (fnOf _ _ _ _ _ _ _ _ _ _ _ _), _⟩ by k_is)
    injection e with e
    injection e with e1 e2 e3 e4
    injection e3 with e3
    subst e3
    first | exact BindsTo.of_eq rfl | exact binds_K (X'.keeps Fq.keep) rfl (by k_is) rfl rfl rfl
  · intro t h2 tk2 bk
    obtain ⟨h3, Tq, F3, N3, _⟩ := bk
    exact leaveT_ F3 N3 Tq (hret _ _ _)
theorem dec_67 {w : World} {loose : List Str} {mean : ExcName → Option Value} {mg mb : Str → Option Value} {news : List (Addr × Obj)} {x : Str} {xt : Tok} {ba bb : Bool}
  {dp un : Nat} {gd : Option (List Code)} {env : Env} {outer : List Env} {A₀ : Around} {base h₀ : Heap} {L : Addr} {m : Str → Option Value} {s : Shared} {R : Result → Shared → Prop} {args : Args} {y : Array Nat}
    (P : At 5 w loose mean mg mb dp un env.scope outer A₀ base h₀) (XB : (tp.heap_39 w.params).In base) (TB : Top tp.view_39 loose mean mg mb base) (D : KtsDicts (outer.filterMap (·.frame)) h₀) (hf : env.frame = some L)
    (F : Fr h₀ L s.heap m) (N : News h₀ L s.heap news) (hx : ∀ c ∈ x.cps.toList, c < 128) (hz : x.cps.size ≤ 100)
    (hbind : ∀ fd oc od osl, (tp.heap_39 w.params).lookup 119 = some ⟨oc, od, .func fd, osl⟩ → BindsTo s fd args [(Str.ofString "text", .str x xt), (Str.ofString "normalize_case", .bool ba), (Str.ofString "encode_stray_percents", .bool bb)])
    (hd : BR.Decodes Builtin._codecs.utf8Decoder (pdBytes 67 ba bb (x.cps.toList.map fun c => c.toUInt8)).toArray y) (hyz : y.size ≤ 20000) (hone : (BR.splitPct (x.cps.toList.map fun c => c.toUInt8)).length = 1 → (⟨y⟩ : Str) = x)
    (hret : ∀ t h' tk', Back A₀ base outer (tp.heap_39 w.params) tp.view_39 loose mean mg mb h₀ L m news h' → R (.ok (.ret (.str ⟨y⟩ t))) { s with heap := h', toks := tk' }) :
    codeAny (model Challenge.rw_fe0139_01.row.prog w) (Ae none dp un gd env outer) (.call (.ref 119) args) R s := by
  obtain ⟨B, X, T, hk, hdp, hun⟩ := P
  revert X
  k_fill
  intro X
  k_dflt (refine' code_defT ?k1 ?k2 ?k3 ?k4 ?k5 XB TB D ?kA hf hk ?k6 ?k7 ?k8 ?k9 ?kB ?_ ?c2 ?c3 ?c4 ?c5; (case kA => exact rfl); (case k1 => k_asm); (case k2 => k_asm); (case k3 => k_asm); (case k4 => k_asm); (case k5 => k_asm); (case k6 => k_is); (case k7 => k_is); (case k8 => ktr_room); (case k9 => exact hbind _ _ _ _ (by k_is)); (case c5 => decide); (case kB => exact locs rfl); (case c2 => exact rfl); (case c3 => exact rfl); (case c4 => exact rfl); k_whole; intro g' L' h' FG' F' N' B' X' T' D'; (try dsimp only); (try k_lift B'); (try k_fold))
  k_steps
  (rename Fr _ _ _ _ => Fq)
  (rename News _ _ _ _ => Nq)
  refine wpAny_call ?_
  refine pd (xt := xt) getC_67 ⟨B', X', T', rfl, ?_, ?_⟩ XB TB D' rfl Fq Nq hx hz ?_ hd hyz hone ?_
  · ktr_room
  · ktr_units
  · intro fd oc od osl h
    have e := h.symm.trans (show (tp.heap_39 w.params).lookup 127 = some ⟨_, _, .func (fnOf _ _ _ _ _ _ _ _ _ _ _ _), _⟩ by k_is)
    injection e with e
    injection e with e1 e2 e3 e4
    injection e3 with e3
    subst e3
    first | exact BindsTo.of_eq rfl | exact binds_K (X'.keeps Fq.keep) rfl (by k_is) rfl rfl rfl
  · intro t h2 tk2 bk
    obtain ⟨h3, Tq, F3, N3, _⟩ := bk
    exact leaveT_ F3 N3 Tq (hret _ _ _)
end Mine
namespace Mine
open PySem PySem.W PyProof.Rows
local macro_rules | `(tactic| k_all) => `(tactic| assumption)
local macro_rules | `(tactic| walk_at "exec While BoolOp") => `(tactic| (k_here; k_dflt (refine whl_start 3 ?_)))
theorem cat_ne {x y : Str} (h : x.length = 1) : ¬ ((x ++ y == Str.ofString "") = true) := by
  intro e
  have e1 : x ++ y = Str.ofString "" := eq_of_beq e
  have e2 := congrArg (fun z : Str => z.cps.size) e1
  have h' : x.cps.size = 1 := h
  have e3 : (x ++ y).cps.size = x.cps.size + y.cps.size := Array.size_append
  have e4 : (Str.ofString "").cps.size = 0 := rfl
  simp only [e3, e4, h'] at e2
  omega
local macro_rules | `(tactic| walk_at "ite") => `(tactic| ((with_reducible show if ((Txt.item _ _ ++ _ == Str.ofString "") = true) then _ else _); (refine KBy.ite_no (cat_ne (by assumption)) ?_)))
def cell (ns : List Int) (k : Nat) : Nat := if k < ns.length then (ns.getD k 0).natAbs % 1000003 else 7 * k + 3
theorem cell_lt {ns : List Int} {k : Nat} (h : (k : Int) < (ns.length : Int)) : (if ns.getD (k : Int).toNat 0 < 0 then -ns.getD (k : Int).toNat 0 else ns.getD (k : Int).toNat 0).fmod 1000003 = ((cell ns k : Nat) : Int) := by
  rw [Int.toNat_natCast]
  unfold cell
  rw [if_pos (by omega : k < ns.length)]
  have e : (if ns.getD k 0 < 0 then -ns.getD k 0 else ns.getD k 0) = ((ns.getD k 0).natAbs : Int) := by split <;> omega
  rw [e, Int.fmod_eq_emod_of_nonneg _ (by decide)]
  rfl
theorem cell_ge {ns : List Int} {k : Nat} (h : ¬ (k : Int) < (ns.length : Int)) : 7 * (k : Int) + 3 = ((cell ns k : Nat) : Int) := by
  unfold cell
  rw [if_neg (by omega : ¬ k < ns.length)]
  rfl
def hexd (d : Nat) : Nat := (Str.ofString "0123456789abcdef").cps.getD d 0
def hexText (n : Nat) : Str := ⟨#[hexd (n / 16), hexd (n % 16)]⟩
theorem item_hex {k : Int} {d : Nat} (h : k = (d : Int)) (hd : d < 16) : Txt.item (Str.ofString "0123456789abcdef") k = ⟨#[hexd d]⟩ := by
  subst h
  rw [item_meets ⟨by omega, by rw [show (Str.ofString "0123456789abcdef").length = 16 from rfl]; omega⟩, Int.toNat_natCast]
  rfl
theorem hex_two {n : Nat} (h2 : n < 128) : Txt.item (Str.ofString "0123456789abcdef") (((n : Int).fdiv 16).fmod 16) ++ (Txt.item (Str.ofString "0123456789abcdef") ((n : Int).fmod 16) ++ Str.ofString "") = hexText n := by
  have e1 : ((n : Int).fdiv 16).fmod 16 = ((n / 16 : Nat) : Int) := by
    rw [Int.fdiv_eq_ediv_of_nonneg _ (by decide), Int.fmod_eq_emod_of_nonneg _ (by decide)]
    omega
  have e2 : (n : Int).fmod 16 = ((n % 16 : Nat) : Int) := by
    rw [Int.fmod_eq_emod_of_nonneg _ (by decide)]
    omega
  rw [item_hex e1 (by omega), item_hex e2 (by omega)]
  rfl
theorem law_cell {w : World} {loose : List Str} {mean : ExcName → Option Value} {mg mb : Str → Option Value} {news : List (Addr × Obj)} {sa : Addr} {vs : List Value} {ns : List Int} {k : Nat} {kt : Tok}
  {dp un : Nat} {gd : Option (List Code)} {cn : Str} {cs : Scope} {a : Addr} {ccd : Value} {cl : List (Str × Addr)} {outer : List Env} {A₀ : Around} {base h₀ : Heap} {L : Addr} {m : Str → Option Value} {s : Shared} {Q E : Value → Shared → Prop}
    (P : At 1 w loose mean mg mb dp un cs outer A₀ base h₀) (F : Fr h₀ L s.heap m) (N : News h₀ L s.heap news)
    (hL : base.IsList sa vs.toArray) (hI : IntsAre vs ns) (hlen : ns.length ≤ 63) (hk9 : k ≤ 100)
    (hret : ∀ t h' tk', Fr h₀ L h' m → News h₀ L h' news → Q (.int (cell ns k : Nat) t) { s with heap := h', toks := tk' }) :
    wpAny (model Challenge.rw_fe0139_01.row.prog w) (Ar none dp un gd cn cs L a ccd cl outer) (call (.ref 134) [.ref sa, .int (k : Int) kt]) Q E s := by
  obtain ⟨B, X, T, hk, hdp, hun⟩ := P
  revert X
  k_fill
  intro X
  refine wpAny_call ?_
  k_dflt (refine' code_def (binds := [(Str.ofString "script", .ref sa), (Str.ofString "at", .int (k : Int) kt)]) ?k1 ?k2 ?k3 ?k4 ?k5 ?kA ?kF ?kK ?k6 ?k7 ?k8 ?k9 ?kB ?_ ?c2 ?c3 ?c4 ?c5; (case kA => exact rfl); (case kF => exact rfl); (case kK => assumption); (case k1 => k_asm); (case k2 => k_asm); (case k3 => k_asm); (case k4 => k_asm); (case k5 => k_asm); (case k6 => k_is); (case k7 => k_is); (case k8 => ktr_room); (case k9 => exact BindsTo.of_eq rfl); (case c5 => decide); (case kB => exact locs rfl); (case c2 => exact rfl); (case c3 => exact rfl); (case c4 => exact rfl); k_whole; intro g' L' h' FG' F' N' B' X' T'; (try dsimp only); (try k_lift B'); (try k_fold))
  k_steps
  all_goals ((rename Fr _ _ _ _ => Fq); (rename News _ _ _ _ => Nq); first | rw [cell_lt (by omega)] | rw [cell_ge (by omega)])
  all_goals exact hret _ _ _ Fq Nq
theorem law_hex {w : World} {loose : List Str} {mean : ExcName → Option Value} {mg mb : Str → Option Value} {news : List (Addr × Obj)} {n : Nat} {nt : Tok}
  {dp un : Nat} {gd : Option (List Code)} {cn : Str} {cs : Scope} {a : Addr} {ccd : Value} {cl : List (Str × Addr)} {outer : List Env} {A₀ : Around} {base h₀ : Heap} {L : Addr} {m : Str → Option Value} {s : Shared} {Q E : Value → Shared → Prop}
    (P : At 1 w loose mean mg mb dp un cs outer A₀ base h₀) (F : Fr h₀ L s.heap m) (N : News h₀ L s.heap news)
    (h1 : 32 ≤ n) (h2 : n < 128)
    (hret : ∀ t h' tk', Fr h₀ L h' m → News h₀ L h' news → Q (.str (hexText n) t) { s with heap := h', toks := tk' }) :
    wpAny (model Challenge.rw_fe0139_01.row.prog w) (Ar none dp un gd cn cs L a ccd cl outer) (call (.ref 148) [.int (n : Int) nt]) Q E s := by
  obtain ⟨B, X, T, hk, hdp, hun⟩ := P
  revert X
  k_fill
  intro X
  refine wpAny_call ?_
  k_dflt (refine' code_def (binds := [(Str.ofString "number", .int (n : Int) nt)]) ?k1 ?k2 ?k3 ?k4 ?k5 ?kA ?kF ?kK ?k6 ?k7 ?k8 ?k9 ?kB ?_ ?c2 ?c3 ?c4 ?c5; (case kA => exact rfl); (case kF => exact rfl); (case kK => assumption); (case k1 => k_asm); (case k2 => k_asm); (case k3 => k_asm); (case k4 => k_asm); (case k5 => k_asm); (case k6 => k_is); (case k7 => k_is); (case k8 => ktr_room); (case k9 => exact BindsTo.of_eq rfl); (case c5 => decide); (case kB => exact locs rfl); (case c2 => exact rfl); (case c3 => exact rfl); (case c4 => exact rfl); k_whole; intro g' L' h' FG' F' N' B' X' T'; (try dsimp only); (try k_lift B'); (try k_fold))
  k_steps
  (rename Fr _ _ _ _ => Fq)
  (rename News _ _ _ _ => Nq)
  rw [hex_two h2]
  exact hret _ _ _ Fq (by first | exact Nq | exact cb_drop Nq (fun _ h => .tail _ h) | exact cb_drop Nq (fun _ h => .tail _ (.tail _ h)))
end Mine
namespace Mine
open PySem PySem.W PyProof.Rows
def letters : Str := Str.ofString "abz09-_~./"
def signs : Str := Str.ofString "aZ5-~ /?#[]@:&=%+!$"
def lones : List Str := [Str.ofString "%z", Str.ofString "%4z", Str.ofString "%", Str.ofString "%-"]
def sg (r : Nat) : Nat := signs.cps.getD (r % 19) 0
def up (n : Nat) : Nat := if 97 ≤ n ∧ n ≤ 122 then n - 32 else n
def piece (c : Nat) : Str × Option Str × Bool :=
  if c % 4 = 0 then (⟨#[letters.cps.getD (c / 4 % 10) 0]⟩, none, false)
  else if c % 4 = 1 then (lones.getD (c / 4 % 4) Str.empty, none, true)
  else if c % 4 = 2 then (⟨#[37, up (hexd (sg (c / 4) / 16)), up (hexd (sg (c / 4) % 16))]⟩, some ⟨#[sg (c / 4)]⟩, false)
  else (⟨#[37, hexd (sg (c / 4) / 16), hexd (sg (c / 4) % 16)]⟩, some ⟨#[sg (c / 4)]⟩, false)
def pObj (p : Str × Option Str × Bool) (t u : Tok) : Obj := { cls := .type "tuple", data := .seq #[.str p.1 t, (match p.2.1 with | none => .none | some z => .str z u), .bool p.2.2] }
local macro_rules | `(tactic| k_all) => `(tactic| assumption)
theorem fmod4 (c : Nat) : (c : Int).fmod 4 = ((c % 4 : Nat) : Int) := by rw [Int.fmod_eq_emod_of_nonneg _ (by decide)]; omega
theorem rest4 (c : Nat) : ((c : Int).fdiv 4).fmod 4 = ((c / 4 % 4 : Nat) : Int) := by rw [Int.fdiv_eq_ediv_of_nonneg _ (by decide), Int.fmod_eq_emod_of_nonneg _ (by decide)]; omega
theorem rest10 (c : Nat) : ((c : Int).fdiv 4).fmod 10 = ((c / 4 % 10 : Nat) : Int) := by rw [Int.fdiv_eq_ediv_of_nonneg _ (by decide), Int.fmod_eq_emod_of_nonneg _ (by decide)]; omega
theorem rest19 (c : Nat) : ((c : Int).fdiv 4).fmod 19 = ((c / 4 % 19 : Nat) : Int) := by rw [Int.fdiv_eq_ediv_of_nonneg _ (by decide), Int.fmod_eq_emod_of_nonneg _ (by decide)]; omega
theorem four_of (c : Nat) : (((c : Int).fdiv 4).fmod 4 = 0 ∧ c / 4 % 4 = 0) ∨ (((c : Int).fdiv 4).fmod 4 = 1 ∧ c / 4 % 4 = 1) ∨ (((c : Int).fdiv 4).fmod 4 = 2 ∧ c / 4 % 4 = 2) ∨ (((c : Int).fdiv 4).fmod 4 = 3 ∧ c / 4 % 4 = 3) := by rw [rest4]; omega
abbrev SG : List Int := [97, 90, 53, 45, 126, 32, 47, 63, 35, 91, 93, 64, 58, 38, 61, 37, 43, 33, 36]
theorem SG_at (c : Nat) : SG.getD (((c : Int).fdiv 4).fmod 19).toNat 0 = ((sg (c / 4) : Nat) : Int) := by
  rw [rest19, Int.toNat_natCast]
  unfold sg
  have : c / 4 % 19 < 19 := by omega
  revert this
  generalize c / 4 % 19 = k
  intro hk
  have h : ∀ k, k < 19 → SG.getD k 0 = ((signs.cps.getD k 0 : Nat) : Int) := by decide +kernel
  exact h k hk
theorem sg_ok (r : Nat) : 32 ≤ sg r ∧ sg r < 127 := by
  unfold sg
  have : r % 19 < 19 := by omega
  revert this
  generalize r % 19 = k
  intro hk
  have h : ∀ k, k < 19 → 32 ≤ signs.cps.getD k 0 ∧ signs.cps.getD k 0 < 127 := by decide +kernel
  exact h k hk
theorem SG_ge (c : Nat) : ¬ (decide (SG.getD (((c : Int).fdiv 4).fmod 19).toNat 0 < 16) = true) := by
  rw [SG_at, decide_eq_true_eq]
  have := sg_ok (c / 4)
  omega
theorem hexd_lt (d : Nat) : hexd d < 128 := by
  by_cases h : d < 16
  · have h' : ∀ d, d < 16 → hexd d < 128 := by decide +kernel
    exact h' d h
  · unfold hexd
    rw [Array.getD_eq_getD_getElem?, Array.getElem?_eq_none (by rw [show (Str.ofString "0123456789abcdef").cps.size = 16 from rfl]; omega)]
    decide
theorem upper_two {a b : Nat} (ha : a < 128) (hb : b < 128) : Txt.upper ⟨#[a, b]⟩ = ⟨#[up a, up b]⟩ := by
  have e : (⟨#[a, b]⟩ : Str) = ⟨#[a]⟩ ++ ⟨#[b]⟩ := rfl
  rw [e, KOpn.upper_app, KOpn.upper_one ha, KOpn.upper_one hb]
  rfl
def hexUp (n : Nat) : Str := ⟨#[up (hexd (n / 16)), up (hexd (n % 16))]⟩
theorem nil_app (x : Str) : Str.ofString "" ++ x = x := by
  apply PySem.Str.ext'
  rw [PySem.Str.cps_append]
  exact Array.empty_append
section
variable {prog : Program} {w : World} {A : Around} {E : Value → Shared → Prop} {s : Shared} {Q : Value → Shared → Prop}
theorem upper_hex {n : Nat} {t : Tok} (h : ∀ t' k', Q (.str (hexUp n) t') { s with toks := k' }) : wpAny (model prog w) A (call (.builtin "str.upper") [.str (Str.ofString "" ++ hexText n) t]) Q E s :=
  KXw.upper (by rw [nil_app]; exact upper_two (hexd_lt _) (hexd_lt _)) (fit_upper (by rw [nil_app]; exact (show (2 : Nat) ≤ 5592405 by decide))) h
end
theorem hex_SG {w : World} {loose : List Str} {mean : ExcName → Option Value} {mg mb : Str → Option Value} {news : List (Addr × Obj)} {c : Nat} {nt : Tok}
  {dp un : Nat} {gd : Option (List Code)} {cn : Str} {cs : Scope} {a : Addr} {ccd : Value} {cl : List (Str × Addr)} {outer : List Env} {A₀ : Around} {base h₀ : Heap} {L : Addr} {m : Str → Option Value} {s : Shared} {Q E : Value → Shared → Prop}
    (P : At 1 w loose mean mg mb dp un cs outer A₀ base h₀) (F : Fr h₀ L s.heap m) (N : News h₀ L s.heap news)
    (hret : ∀ t h' tk', Fr h₀ L h' m → News h₀ L h' news → Q (.str (hexText (sg (c / 4))) t) { s with heap := h', toks := tk' }) :
    wpAny (model Challenge.rw_fe0139_01.row.prog w) (Ar none dp un gd cn cs L a ccd cl outer) (call (.ref 148) [.int (SG.getD (((c : Int).fdiv 4).fmod 19).toNat 0) nt]) Q E s := by
  rw [SG_at]
  have := sg_ok (c / 4)
  exact law_hex P F N (by omega) (by omega) hret
theorem allLt_all {d : Addr} : ∀ {l : List (Addr × Obj)}, AllLt d l → ∀ p ∈ l, p.1 < d
  | [], _, _, h => nomatch h
  | q :: r, a, p, h => by
    rcases List.mem_cons.mp h with rfl | h
    · exact a.1
    · exact allLt_all a.2 p h
abbrev tup (a b c : Value) : Obj := { cls := .type "tuple", data := .seq #[a, b, c] }
section
variable {c : Nat} {t u : Tok}
theorem pc0 (h : (c : Int).fmod 4 = 0) : tup (.str (Txt.item (Str.ofString "abz09-_~./") (((c : Int).fdiv 4).fmod 10)) t) .none (.bool false) = pObj (piece c) t u := by
  rw [fmod4] at h
  rw [rest10, item_meets ⟨by omega, by rw [show (Str.ofString "abz09-_~./").length = 10 from rfl]; omega⟩, Int.toNat_natCast]
  unfold piece
  rw [if_pos (by omega)]
  rfl
theorem pc1 {z : Str} (h : (c : Int).fmod 4 = 1) (hz : z = lones.getD (c / 4 % 4) Str.empty) : tup (.str z t) .none (.bool true) = pObj (piece c) t u := by
  rw [fmod4] at h
  unfold piece
  rw [if_neg (by omega), if_pos (by omega), hz]
  rfl
theorem sg_item : Txt.item (Str.ofString "aZ5-~ /?#[]@:&=%+!$") (((c : Int).fdiv 4).fmod 19) = ⟨#[sg (c / 4)]⟩ := by
  rw [rest19, item_meets ⟨by omega, by rw [show (Str.ofString "aZ5-~ /?#[]@:&=%+!$").length = 19 from rfl]; omega⟩, Int.toNat_natCast]
  rfl
theorem pc2 (h : (c : Int).fmod 4 = 2) : tup (.str (Str.ofString "%" ++ hexUp (sg (c / 4))) t) (.str (Txt.item (Str.ofString "aZ5-~ /?#[]@:&=%+!$") (((c : Int).fdiv 4).fmod 19)) u) (.bool false) = pObj (piece c) t u := by
  rw [fmod4] at h
  rw [sg_item]
  unfold piece
  rw [if_neg (by omega), if_neg (by omega), if_pos (by omega)]
  rfl
theorem pc3 (h0 : (c : Int).fmod 4 ≠ 0) (h1 : (c : Int).fmod 4 ≠ 1) (h2 : (c : Int).fmod 4 ≠ 2) : tup (.str (Str.ofString "%" ++ (Str.ofString "" ++ hexText (sg (c / 4)))) t) (.str (Txt.item (Str.ofString "aZ5-~ /?#[]@:&=%+!$") (((c : Int).fdiv 4).fmod 19)) u) (.bool false) = pObj (piece c) t u := by
  rw [fmod4] at h0 h1 h2
  rw [sg_item, nil_app]
  unfold piece
  rw [if_neg (by omega), if_neg (by omega), if_neg (by omega)]
  rfl
end
theorem fin_piece {h₀ h' : Heap} {L : Addr} {m : Str → Option Value} {news rest : List (Addr × Obj)} {s : Shared} {Q : Value → Shared → Prop} {c : Nat} {t u : Tok} {D : Addr} {ob : Obj} {tk' : Nat}
    (hret : ∀ T t u h' tk', Fr h₀ L h' m → News h₀ L h' ((T, pObj (piece c) t u) :: news) → (∀ p ∈ news, p.1 < T) → Q (.ref T) { s with heap := h', toks := tk' })
    (e : ob = pObj (piece c) t u) (F : Fr h₀ L h' m) (N : News h₀ L h' ((D, ob) :: rest)) (sub : ∀ q ∈ news, q ∈ rest) (l : ∀ p ∈ news, p.1 < D) : Q (.ref D) { s with heap := h', toks := tk' } := by
  subst e
  refine hret D t u h' tk' F (cb_drop N fun q hq => ?_) l
  rcases List.mem_cons.mp hq with rfl | hq
  · exact .head _
  · exact .tail _ (sub q hq)
local macro_rules | `(tactic| walk_at "call ref") => `(tactic| (k_here; (with_reducible show wpAny _ _ (call (Value.ref 148) [Value.int _ _]) _ _ _); k_dflt (refine' hex_SG ⟨?k1, ?k2, ?k3, ?k4, ?k5, ?k6⟩ ?F ?N ?_; (case F => k_asm); (case k1 => k_asm); (case N => k_asm); (case k2 => k_asm); (case k3 => k_asm); (case k4 => first | rfl | assumption); (case k5 => ktr_room); (case k6 => ktr_units)); intro t' h' tk' F' N'; (try dsimp only); (try k_fold)))
local macro_rules | `(tactic| walk_at "ite") => `(tactic| ((with_reducible show if (decide (List.getD _ _ _ < 16) = true) then _ else _); (refine KBy.ite_no (SG_ge _) ?_)))
local macro_rules | `(tactic| walk_at "call builtin:str.upper") => `(tactic| (k_here; (with_reducible show wpAny _ _ (call (Value.builtin "str.upper") [Value.str _ _]) _ _ _); (refine upper_hex ?_); intro t' k'))
local macro_rules | `(tactic| walk_at "subscriptTail") => `(tactic| (k_here; (with_reducible show wpAny _ _ (subscriptTail _ _ (Value.ref _) (Value.int (Int.fmod (Int.fdiv (Nat.cast _) 4) 4) _)) _ _ _); (rcases four_of _ with ⟨e, e'⟩ | ⟨e, e'⟩ | ⟨e, e'⟩ | ⟨e, e'⟩ <;> rw [e])))
theorem law_piece {w : World} {loose : List Str} {mean : ExcName → Option Value} {mg mb : Str → Option Value} {news : List (Addr × Obj)} {c : Nat} {ct : Tok}
  {dp un : Nat} {gd : Option (List Code)} {cn : Str} {cs : Scope} {a : Addr} {ccd : Value} {cl : List (Str × Addr)} {outer : List Env} {A₀ : Around} {base h₀ : Heap} {L : Addr} {m : Str → Option Value} {s : Shared} {Q E : Value → Shared → Prop}
    (P : At 2 w loose mean mg mb dp un cs outer A₀ base h₀) (F : Fr h₀ L s.heap m) (N : News h₀ L s.heap news)
    
    (hret : ∀ T t u h' tk', Fr h₀ L h' m → News h₀ L h' ((T, pObj (piece c) t u) :: news) → (∀ p ∈ news, p.1 < T) → Q (.ref T) { s with heap := h', toks := tk' }) :
    wpAny (model Challenge.rw_fe0139_01.row.prog w) (Ar none dp un gd cn cs L a ccd cl outer) (call (.ref 141) [.int (c : Int) ct]) Q E s := by
  obtain ⟨B, X, T, hk, hdp, hun⟩ := P
  revert X
  k_fill
  intro X
  refine wpAny_call ?_
  k_dflt (refine' code_def (binds := [(Str.ofString "told", .int (c : Int) ct)]) ?k1 ?k2 ?k3 ?k4 ?k5 ?kA ?kF ?kK ?k6 ?k7 ?k8 ?k9 ?kB ?_ ?c2 ?c3 ?c4 ?c5; (case kA => exact rfl); (case kF => exact rfl); (case kK => assumption); (case k1 => k_asm); (case k2 => k_asm); (case k3 => k_asm); (case k4 => k_asm); (case k5 => k_asm); (case k6 => k_is); (case k7 => k_is); (case k8 => ktr_room); (case k9 => exact BindsTo.of_eq rfl); (case c5 => decide); (case kB => exact locs rfl); (case c2 => exact rfl); (case c3 => exact rfl); (case c4 => exact rfl); k_whole; intro g' L' h' FG' F' N' B' X' T'; (try dsimp only); (try k_lift B'); (try k_fold))
  k_steps
  all_goals ((with_reducible rename Fr _ _ _ _ => Fq); (with_reducible rename News _ _ _ _ => Nq))
  · (with_reducible rename _ ∧ AllLt _ _ => lq); exact fin_piece (u := 0) hret (pc0 (by assumption)) Fq Nq (fun _ h => .tail _ h) (allLt_all lq.2)
  · (with_reducible rename _ ∧ _ ∧ AllLt _ _ => lq); exact fin_piece (u := 0) hret (pc1 (by assumption) (by rename c / 4 % 4 = _ => e; rw [e]; rfl)) Fq Nq (fun _ h => .tail _ (.tail _ h)) (allLt_all lq.2.2)
  · (with_reducible rename _ ∧ _ ∧ AllLt _ _ => lq); exact fin_piece (u := 0) hret (pc1 (by assumption) (by rename c / 4 % 4 = _ => e; rw [e]; rfl)) Fq Nq (fun _ h => .tail _ (.tail _ h)) (allLt_all lq.2.2)
  · (with_reducible rename _ ∧ _ ∧ AllLt _ _ => lq); exact fin_piece (u := 0) hret (pc1 (by assumption) (by rename c / 4 % 4 = _ => e; rw [e]; rfl)) Fq Nq (fun _ h => .tail _ (.tail _ h)) (allLt_all lq.2.2)
  · (with_reducible rename _ ∧ _ ∧ AllLt _ _ => lq); exact fin_piece (u := 0) hret (pc1 (by assumption) (by rename c / 4 % 4 = _ => e; rw [e]; rfl)) Fq Nq (fun _ h => .tail _ (.tail _ h)) (allLt_all lq.2.2)
  · (with_reducible rename _ ∧ AllLt _ _ => lq); exact fin_piece hret (pc2 (by assumption)) Fq Nq (fun _ h => .tail _ h) (allLt_all lq.2)
  · (with_reducible rename _ ∧ AllLt _ _ => lq); exact fin_piece hret (pc3 (by assumption) (by assumption) (by assumption)) Fq Nq (fun _ h => .tail _ h) (allLt_all lq.2)
end Mine
namespace Mine
open PySem PySem.W PyProof.Rows PySem.Spec
abbrev Piece := Str × Option Str × Bool
abbrev Its := List (Addr × Piece × Tok × Tok)
def refs (its : Its) : List Value := its.map fun q => .ref q.1
def objs (its : Its) : List (Addr × Obj) := its.map fun q => (q.1, pObj q.2.1 q.2.2.1 q.2.2.2)
def pcs (its : Its) : List Piece := its.map fun q => q.2.1
section
variable {w : World} {loose : List Str} {mean : ExcName → Option Value} {mg mb : Str → Option Value} {news : List (Addr × Obj)} {sa : Addr} {vs : List Value} {ns : List Int} {z : Int} {kt : Tok}
  {dp un : Nat} {gd : Option (List Code)} {cn : Str} {cs : Scope} {a : Addr} {ccd : Value} {cl : List (Str × Addr)} {outer : List Env} {A₀ : Around} {base h₀ : Heap} {L : Addr} {m : Str → Option Value} {s : Shared} {Q E : Value → Shared → Prop}
theorem law_cellz (P : At 1 w loose mean mg mb dp un cs outer A₀ base h₀) (F : Fr h₀ L s.heap m) (N : News h₀ L s.heap news)
    (hL : base.IsList sa vs.toArray) (hI : IntsAre vs ns) (hlen : ns.length ≤ 63) (h0 : 0 ≤ z) (h9 : z ≤ 100)
    (hret : ∀ t h' tk', Fr h₀ L h' m → News h₀ L h' news → Q (.int (cell ns z.toNat : Nat) t) { s with heap := h', toks := tk' }) :
    wpAny (model Challenge.rw_fe0139_01.row.prog w) (Ar none dp un gd cn cs L a ccd cl outer) (call (.ref 134) [.ref sa, .int z kt]) Q E s := by
  obtain ⟨k, rfl⟩ := Int.eq_ofNat_of_zero_le h0
  exact law_cell P F N hL hI hlen (by omega) hret
end
section
variable {prog : Program} {w : World} {A : Around} {E : Value → Shared → Prop} {s : Shared} {env : Env} {h₀ : Heap} {x : Str} {body : List Stmt} {Q : Flow → Shared → Prop}
/-- a turn's end of a loop that puts pieces on one list -/
def GrEnd (h₀ : Heap) (L F : Addr) (x : Str) (m₀ : Str → Option Value) (its : Its) (tl : List (Addr × Obj)) (out : List Piece) (s s' : Shared) : Prop :=
  ∃ h' tk' add n' m', s' = { s with heap := h', toks := tk' } ∧ Fr h₀ L h' m' ∧ (∀ z, z ≠ x → m' z = m₀ z) ∧ News h₀ L h' ((F, listOf (refs (its ++ add)).toArray n') :: (objs add ++ tl)) ∧ pcs add = out
def GrPost (h₀ : Heap) (L F : Addr) (x : Str) (m₀ : Str → Option Value) (its : Its) (tl : List (Addr × Obj)) (out : List Piece) (s : Shared) (Q : Flow → Shared → Prop) (f : Flow) (s' : Shared) : Prop :=
  match f with
  | .ret v => Q (.ret v) s'
  | .brk => Q .next s'
  | _ => GrEnd h₀ L F x m₀ its tl out s s'
theorem grEnd_ {L F : Addr} {m₀ m' : Str → Option Value} {its : Its} {tl : List (Addr × Obj)} {out : List Piece} {h' : Heap} {tk' n' : Nat} (add : Its) (Fq : Fr h₀ L h' m') (hm : ∀ z, z ≠ x → m' z = m₀ z)
    (N : News h₀ L h' ((F, listOf (refs (its ++ add)).toArray n') :: (objs add ++ tl))) (ho : pcs add = out) : GrPost h₀ L F x m₀ its tl out s Q .next { s with heap := h', toks := tk' } := ⟨h', tk', add, n', m', rfl, Fq, hm, N, ho⟩
theorem end_two {L F T D : Addr} {m₀ m' : Str → Option Value} {its : Its} {tl : List (Addr × Obj)} {out : List Piece} {h' : Heap} {tk' n' : Nat} {p p2 : Piece} {t u t2 u2 : Tok} {o2 : Obj} (Fq : Fr h₀ L h' m') (hm : ∀ z, z ≠ x → m' z = m₀ z)
    (N : News h₀ L h' ((D, o2) :: (T, pObj p t u) :: (F, listOf (refs (its ++ [(T, p, t, u)] ++ [(D, p2, t2, u2)])).toArray n') :: tl)) (e2 : o2 = pObj p2 t2 u2) (ho : [p, p2] = out) : GrPost h₀ L F x m₀ its tl out s Q .next { s with heap := h', toks := tk' } := by
  subst e2
  refine grEnd_ (n' := n') [(T, p, t, u), (D, p2, t2, u2)] Fq hm ?_ ho
  rw [List.append_assoc] at N
  refine cb_drop N fun p hp => ?_
  simp only [objs, List.map_cons, List.map_nil, List.mem_cons, List.mem_append, List.not_mem_nil, or_false] at hp ⊢
  rcases hp with h | ((h | h) | h)
  · exact .inr (.inr (.inl h))
  · exact .inr (.inl h)
  · exact .inl h
  · exact .inr (.inr (.inr h))
theorem end_one {L F T : Addr} {m₀ m' : Str → Option Value} {its : Its} {tl : List (Addr × Obj)} {out : List Piece} {h' : Heap} {tk' n' : Nat} {p : Piece} {t u : Tok} (Fq : Fr h₀ L h' m') (hm : ∀ z, z ≠ x → m' z = m₀ z)
    (N : News h₀ L h' ((T, pObj p t u) :: (F, listOf (refs (its ++ [(T, p, t, u)])).toArray n') :: tl)) (ho : [p] = out) : GrPost h₀ L F x m₀ its tl out s Q .next { s with heap := h', toks := tk' } := by
  refine grEnd_ (n' := n') [(T, p, t, u)] Fq hm ?_ ho
  refine cb_drop N fun p hp => ?_
  simp only [objs, List.map_cons, List.map_nil, List.mem_cons, List.mem_append, List.not_mem_nil, or_false] at hp ⊢
  rcases hp with h | h | h
  · exact .inr (.inl h)
  · exact .inl h
  · exact .inr (.inr h)
theorem forLoop_grow {R : Result → Shared → Prop} {px : Pos} {F I : Addr} {cnt : Nat} {m₀ : Str → Option Value} {news : List (Addr × Obj)} (out : Nat → List Piece)
    (hx : env.kindOf x = some .local) (hp : (env.scope.kind == .class || (env.scope.kind == .module && env.locals != env.globals)) = false) (hh : A.handled = none)
    (hF : Fr h₀ env.locals s.heap m₀) (N : News h₀ env.locals s.heap ((F, listOf #[] 0) :: news)) (hI : IsRangeIter s.heap I 0 cnt 1) (hI1 : I ≠ env.locals) (hI2 : h₀.get? I = none) (hI3 : ∀ p ∈ news, p.1 ≠ I) (hI4 : F ≠ I) (hne : ∀ p ∈ news, p.1 ≠ F)
    (turn : ∀ i its n h tk t tl, i < cnt → its.length ≤ (((List.range i).map out).flatten).length → (∀ p ∈ tl, p.1 ≠ F) → Fr h₀ env.locals h (fun y => if y = x then some (.int (i : Int) t) else m₀ y) → News h₀ env.locals h ((F, listOf (refs its).toArray n) :: tl) →
      wpAny (model prog w) A (execs body env) (GrPost h₀ env.locals F x m₀ its tl (out i) { s with heap := h, toks := tk } (fun f s' => R (.ok f) s')) (notedBy (model prog w) A env fun e s' => R (.error e) s') { s with heap := h, toks := tk })
    (done : ∀ its n h tk (u : Str → Option Value), pcs its = ((List.range cnt).map out).flatten → Fr h₀ env.locals h (fun y => if y = x then u y else m₀ y) → News h₀ env.locals h ((F, listOf (refs its).toArray n) :: (objs its ++ news)) → R (.ok .next) { s with heap := h, toks := tk }) :
    codeAny (model prog w) A (.forLoop (.Name x px) (.ref I) body [] env) R s := by
  have W := Walks.range (prog := prog) (w := w) hh I 0 1 cnt
  refine codeAny_forLoop
    (fun k s' => ∃ h' tk m' i its n, s' = { s with heap := h', toks := tk } ∧ IsRangeIter h' I (0 + (i : Nat) * 1) ((cnt : Int) - (i : Nat)) 1 ∧ Fr h₀ env.locals h' m' ∧ (∀ z, z ≠ x → m' z = m₀ z) ∧ News h₀ env.locals h' ((F, listOf (refs its).toArray n) :: (objs its ++ news)) ∧ (∀ q ∈ its, q.1 ≠ F ∧ q.1 ≠ I) ∧ pcs its = ((List.range i).map out).flatten ∧ i ≤ cnt ∧ k = cnt + 1 - i) ?_ (cnt + 1)
    ⟨s.heap, s.toks, m₀, 0, [], 0, rfl, by simpa using hI, hF, fun _ _ => rfl, N, (fun _ h => nomatch h), rfl, Nat.zero_le _, rfl⟩
  rintro k s' ⟨h', tk, m', i, its, n, rfl, hit, F', hm, N', hits, hpc, hi, rfl⟩
  have offI : ∀ p ∈ (F, listOf (refs its).toArray n) :: (objs its ++ news), p.1 ≠ I := by
    intro p hp
    rcases List.mem_cons.mp hp with rfl | hp
    · exact hI4
    rcases List.mem_append.mp hp with hp | hp
    · obtain ⟨q, hq, rfl⟩ := List.mem_map.mp hp
      exact (hits q hq).2
    · exact hI3 p hp
  have next : ∀ h₁ : Heap, (∀ b o, b ∉ [I] → h'.get? b = some o → h₁.get? b = some o) → Fr h₀ env.locals h₁ m' ∧ News h₀ env.locals h₁ ((F, listOf (refs its).toArray n) :: (objs its ++ news)) := fun h₁ hk₁ =>
    ⟨⟨F'.ns.at' fun o e => hk₁ _ o (fun hm => hI1 (List.mem_singleton.mp hm).symm) e, fun b o e => hk₁ b o (fun hm => by rw [List.mem_singleton.mp hm, hI2] at e; cases e) (F'.keep b o e), F'.above⟩,
     fun p hp => ⟨hk₁ _ _ (fun hm => offI p hp (List.mem_singleton.mp hm)) (N' p hp).1, (N' p hp).2⟩⟩
  by_cases hlt : i < cnt
  · refine W.item i _ _ _ hlt hit fun v h₁ tk₁ hPv hst₁ hk₁ => ?_
    obtain ⟨t, rfl⟩ := hPv
    obtain ⟨F₁, N₁⟩ := next h₁ hk₁
    have ei : (0 : Int) + (i : Int) * 1 = (i : Int) := by omega
    rw [ei]
    refine wpAny_assign_Name (wpAny_storeName_local hx F₁.ns (fun h₂ hn₂ hs₂ => ?_) hp)
    have F₂ := F₁.set hn₂ hs₂
    have hI₂ : IsRangeIter h₂ I (0 + ((i + 1 : Nat) : Int) * 1) ((cnt : Int) - ((i + 1 : Nat) : Int)) 1 := (hs₂.2 I hI1).trans hst₁
    have e : (fun y => if y = x then some (Value.int (i : Int) t) else m' y) = fun y => if y = x then some (.int (i : Int) t) else m₀ y := by
      funext z
      by_cases h1 : z = x
      · simp [h1]
      · simp only [if_neg h1]
        exact hm z h1
    rw [e] at F₂
    obtain ⟨oI, hoI⟩ : ∃ o, h₂.get? I = some o := ⟨_, hI₂⟩
    have N₂ : News h₀ env.locals h₂ ((F, listOf (refs its).toArray n) :: ((I, oI) :: (objs its ++ news))) := by
      intro p hp
      have cases' : p = (I, oI) ∨ p ∈ (F, listOf (refs its).toArray n) :: (objs its ++ news) := by
        rcases List.mem_cons.mp hp with h | h
        · exact .inr (h ▸ .head _)
        rcases List.mem_cons.mp h with h | h
        · exact .inl h
        · exact .inr (.tail _ h)
      rcases cases' with rfl | hp
      · exact ⟨hoI, hI1, hI2⟩
      · exact ⟨(hs₂.2 p.1 (N₁ p hp).2.1).trans (N₁ p hp).1, (N₁ p hp).2⟩
    have hne2 : ∀ p ∈ (I, oI) :: (objs its ++ news), p.1 ≠ F := by
      intro p hp
      rcases List.mem_cons.mp hp with rfl | hp
      · exact fun h => hI4 h.symm
      rcases List.mem_append.mp hp with hp | hp
      · obtain ⟨q, hq, rfl⟩ := List.mem_map.mp hp
        exact (hits q hq).1
      · exact hne p hp
    have hlen : its.length ≤ (((List.range i).map out).flatten).length := by
      rw [← hpc]
      simp [pcs]
    refine wpAny_mono (turn i its n h₂ _ t _ hlt hlen hne2 F₂ N₂) (fun f s₃ h₃ => ?_) fun _ _ e => e
    have fin : ∀ tkx, GrEnd h₀ env.locals F x m₀ its ((I, oI) :: (objs its ++ news)) (out i) { s with heap := h₂, toks := tkx } s₃ → ∃ m, m < cnt + 1 - i ∧ ∃ h' tk m' i its n, s₃ = { s with heap := h', toks := tk } ∧ IsRangeIter h' I (0 + (i : Nat) * 1) ((cnt : Int) - (i : Nat)) 1 ∧ Fr h₀ env.locals h' m' ∧ (∀ z, z ≠ x → m' z = m₀ z) ∧ News h₀ env.locals h' ((F, listOf (refs its).toArray n) :: (objs its ++ news)) ∧ (∀ q ∈ its, q.1 ≠ F ∧ q.1 ≠ I) ∧ pcs its = ((List.range i).map out).flatten ∧ i ≤ cnt ∧ m = cnt + 1 - i := by
      rintro tkx ⟨h'', tk'', add, n', m'', e', F'', hm'', N'', hout⟩
      have hI'' := N'' (I, oI) (by simp)
      have at' : ∀ q ∈ add, h''.get? q.1 = some (pObj q.2.1 q.2.2.1 q.2.2.2) := fun q hq => (N'' (q.1, pObj q.2.1 q.2.2.1 q.2.2.2) (.tail _ (List.mem_append.mpr (.inl (List.mem_map.mpr ⟨q, hq, rfl⟩))))).1
      have addI : ∀ q ∈ add, q.1 ≠ I := by
        intro q hq e
        have h1 := at' q hq
        rw [e, hI''.1] at h1
        have h2 := hoI.symm.trans hI₂
        rw [h1] at h2
        have h3 := congrArg Obj.cls (Option.some.inj h2)
        revert h3
        show Value.type "tuple" = Value.type "range_iterator" → False
        intro h3
        injection h3 with h3
        revert h3
        decide
      have hadd : ∀ q ∈ add, q.1 ≠ F := by
        intro q hq e
        have h1 := at' q hq
        have h2 := (N'' _ (.head _)).1
        rw [e] at h1
        rw [h1] at h2
        have h3 := congrArg Obj.cls (Option.some.inj h2)
        revert h3
        show Value.type "tuple" = Value.type "list" → False
        intro h3
        injection h3 with h3
        revert h3
        decide
      refine ⟨cnt + 1 - (i + 1), by omega, h'', tk'', m'', i + 1, its ++ add, n', e', ?_, F'', hm'', ?_, ?_, ?_, hlt, rfl⟩
      · show h''.get? I = _
        rw [hI''.1, ← hoI]
        exact hI₂
      · refine cb_drop N'' fun p hp => ?_
        simp only [objs, List.map_append, List.mem_cons, List.mem_append] at hp ⊢
        rcases hp with h | ((h | h) | h)
        · exact .inl h
        · exact .inr (.inr (.inr (.inl h)))
        · exact .inr (.inl h)
        · exact .inr (.inr (.inr (.inr h)))
      · intro q hq
        rcases List.mem_append.mp hq with hq | hq
        · exact hits q hq
        · exact ⟨hadd q hq, addI q hq⟩
      · simp [pcs, List.range_succ] at hpc hout ⊢
        rw [hpc, hout]
    cases f with
    | ret v => exact h₃
    | brk => exact h₃
    | cont => exact fin _ h₃
    | next => exact fin _ h₃
  · have hin : i = cnt := by omega
    subst hin
    refine W.done _ _ _ hit fun h₁ tk₁ hk₁ => wpAny_execs_nil ?_
    obtain ⟨F₁, N₁⟩ := next h₁ hk₁
    refine done its n h₁ tk₁ m' hpc ?_ N₁
    have e : (fun y => if y = x then m' y else m₀ y) = m' := by
      funext z
      by_cases h1 : z = x
      · simp [h1]
      · simp only [if_neg h1]
        exact (hm z h1).symm
    rw [e]
    exact F₁
theorem loop_grow {px : Pos} {F r : Addr} {a : Int} {t₀ u₀ v₀ : Tok} {cnt : Nat} {m₀ : Str → Option Value} {news : List (Addr × Obj)} (out : Nat → List Piece)
    (hx : env.kindOf x = some .local) (hp : (env.scope.kind == .class || (env.scope.kind == .module && env.locals != env.globals)) = false) (hh : A.handled = none)
    (hr : IsRange s.heap r 0 a 1 t₀ u₀ v₀) (ha : a = (cnt : Int)) (hc : cnt ≤ 1000)
    (hF : Fr h₀ env.locals s.heap m₀) (N : News h₀ env.locals s.heap ((F, listOf #[] 0) :: news)) (hne : ∀ p ∈ news, p.1 ≠ F) (hE : PassesOwn (model prog w) A env E)
    (turn : ∀ i its n h tk t tl, i < cnt → its.length ≤ (((List.range i).map out).flatten).length → (∀ p ∈ tl, p.1 ≠ F) → Fr h₀ env.locals h (fun y => if y = x then some (.int (i : Int) t) else m₀ y) → News h₀ env.locals h ((F, listOf (refs its).toArray n) :: tl) →
      wpAny (model prog w) A (execs body env) (GrPost h₀ env.locals F x m₀ its tl (out i) { s with heap := h, toks := tk } Q) E { s with heap := h, toks := tk })
    (done : ∀ its n h tk (u : Str → Option Value), pcs its = ((List.range cnt).map out).flatten → Fr h₀ env.locals h (fun y => if y = x then u y else m₀ y) → News h₀ env.locals h ((F, listOf (refs its).toArray n) :: (objs its ++ news)) → Q .next { s with heap := h, toks := tk }) :
    wpAny (model prog w) A (pyIter (.ref r)) (fun it s₂ => codeAny (model prog w) A (.forLoop (.Name x px) it body [] env) (fun r s' => match r with | .ok f => Q f s' | .error e => cameBackBy (model prog w) A env E e s') s₂) E s := by
  subst ha
  have hsz : Builtin.Range.rangeSize 0 (cnt : Int) 1 = (cnt : Int) := by
    unfold Builtin.Range.rangeSize
    simp
    omega
  have hsm : Builtin.Range.small 0 (cnt : Int) 1 = true := by
    unfold Builtin.Range.small
    rw [hsz]
    rw [if_pos (by decide : (1 : Int) > 0)]
    unfold Builtin.Range.rangeFitsLong
    simp only [Bool.and_eq_true, Bool.or_eq_true, decide_eq_true_eq, beq_iff_eq]
    omega
  refine wpAny_pyIter_range hr hsm ?_
  rw [hsz]
  have lt : ∀ p ∈ (F, listOf #[] 0) :: news, p.1 ≠ s.heap.objs.size := fun p hp => Nat.ne_of_lt (Heap.lt_size (N p hp).1)
  refine forLoop_grow (s := { s with heap := s.heap.push { cls := .type "range_iterator", data := .fields #[rawInt 0, rawInt (cnt : Int), rawInt 1] } }) out hx hp hh (hF.push _) (fun p hp => ⟨Heap.get?_push_of_some _ (N p hp).1, (N p hp).2⟩)
    (Heap.get?_push_size _ rfl) (Nat.ne_of_gt hF.ns.lt) (next_is_new hF) (fun p hp => lt p (.tail _ hp)) (lt _ (.head _)) hne ?_ ?_
  · intro i its n h tk t tl a1 a2 a3 a4 a5
    exact wpAny_passesOwn hE (turn i its n h tk t tl a1 a2 a3 a4 a5)
  · intro its n h tk u a1 a2 a3
    exact done its n h tk u a1 a2 a3
theorem refs_push (its : Its) (q : Addr × Piece × Tok × Tok) : (refs its).toArray.push (.ref q.1) = (refs (its ++ [q])).toArray := by
  apply Array.ext'
  simp [refs]
section
variable {L F T : Addr} {m : PySem.Str → Option Value} {news news' : List (Addr × Obj)} {Q : Value → Shared → Prop} {its : Its} {n : Nat}
theorem append_its {p : Piece} {t u : Tok} (Fq : Fr h₀ L s.heap m) (N : News h₀ L s.heap news) (_hm : (T, pObj p t u) ∈ news) (U : Upd F (listOf (refs its).toArray n) (listOf (refs (its ++ [(T, p, t, u)])).toArray (n + 1)) news news') (hl : its.length ≤ 1000)
    (h : ∀ h', Fr h₀ L h' m → News h₀ L h' news' → Q .none { s with heap := h' }) : wpAny (model prog w) A (call (.builtin "list.append") [.ref F, .ref T]) Q E s := by
  rw [← refs_push its (T, p, t, u)] at U
  exact append_K Fq N U h (by rw [List.size_toArray, refs, List.length_map, sizeLine_eq]; omega)
theorem append_tup {x y : Str} {z : Bool} {t u : Tok} (Fq : Fr h₀ L s.heap m) (N : News h₀ L s.heap news) (_hm : (T, tup (.str x t) (.str y u) (.bool z)) ∈ news) (U : Upd F (listOf (refs its).toArray n) (listOf (refs (its ++ [(T, (x, some y, z), t, u)])).toArray (n + 1)) news news') (hl : its.length ≤ 1000)
    (h : ∀ h', Fr h₀ L h' m → News h₀ L h' news' → Q .none { s with heap := h' }) : wpAny (model prog w) A (call (.builtin "list.append") [.ref F, .ref T]) Q E s := by
  rw [← refs_push its (T, (x, some y, z), t, u)] at U
  exact append_K Fq N U h (by rw [List.size_toArray, refs, List.length_map, sizeLine_eq]; omega)
theorem sub_last {value slice : PySem.Expr} {u : Tok} {q : Addr × Piece × Tok × Tok} (N : News h₀ L s.heap news) (hm : (F, listOf (refs (its ++ [q])).toArray n) ∈ news) (hl : its.length ≤ 1000) (h : Q (.ref q.1) s)
    (hs : subscripted slice false (.ref F) (.int (-1) u) = operate [.ref F, .int (-1) u] (getItem (.ref F) (.int (-1) u)) := by with_unfolding_all rfl) :
    wpAny (model prog w) A (subscriptTail value slice (.ref F) (.int (-1) u)) Q E s := by
  have hl' : s.heap.IsList F (refs (its ++ [q])).toArray := ⟨_, (N _ hm).1, rfl, n, rfl⟩
  have hsz : (refs (its ++ [q])).toArray.size = its.length + 1 := by simp [refs]
  refine tail_any hl'.typeIs slot_list_getitem.lookup (wpAny_getItem_list_neg hl' (by omega) (by rw [hsz]; omega) (by omega) ?_ h) hs
  rw [hsz, show (-1 + ((its.length + 1 : Nat) : Int)).toNat = its.length by omega]
  simp [refs]
theorem sub_p0 {value slice : PySem.Expr} {u t v : Tok} {p : Piece} (N : News h₀ L s.heap news) (hm : (T, pObj p t v) ∈ news) (h : Q (.str p.1 t) s)
    (hs : subscripted slice false (.ref T) (.int 0 u) = operate [.ref T, .int 0 u] (getItem (.ref T) (.int 0 u)) := by with_unfolding_all rfl) :
    wpAny (model prog w) A (subscriptTail value slice (.ref T) (.int 0 u)) Q E s := by
  have ht : IsTup s.heap T #[.str p.1 t, (match p.2.1 with | none => .none | some z => .str z v), .bool p.2.2] := News.isTup N hm
  exact tail_any ht.typeIs slot_tuple_getitem.lookup (getItem_tuple (j := 0) (x := .str p.1 t) ht (by omega) (by omega) rfl rfl h) hs
end
end
end Mine
namespace Mine
open PySem PySem.W PyProof.Rows
local macro_rules | `(tactic| k_all) => `(tactic| assumption)
local macro_rules | `(tactic| walk_at "call ref") => `(tactic| (k_here; (with_reducible show wpAny _ _ (call (Value.ref 134) [Value.ref _, Value.int _ _]) _ _ _); k_dflt (refine' law_cellz ⟨?k1, ?k2, ?k3, ?k4, ?k5, ?k6⟩ ?F ?N ?hL ?hI ?hl ?h0 ?h9 ?_; (case F => k_asm); (case k1 => k_asm); (case N => k_asm); (case k2 => k_asm); (case k3 => k_asm); (case k4 => first | rfl | assumption); (case k5 => ktr_room); (case k6 => ktr_units); (case hL => assumption); (case hI => assumption); (case hl => assumption); (case h0 => omega); (case h9 => omega)); intro t' h' tk' F' N'; (try dsimp only); (try k_fold)))
local macro_rules | `(tactic| walk_at "call ref") => `(tactic| (k_here; (with_reducible show wpAny _ _ (call (Value.ref 141) [Value.int _ _]) _ _ _); k_dflt (refine' law_piece ⟨?k1, ?k2, ?k3, ?k4, ?k5, ?k6⟩ ?F ?N ?_; (case F => k_asm); (case k1 => k_asm); (case N => k_asm); (case k2 => k_asm); (case k3 => k_asm); (case k4 => first | rfl | assumption); (case k5 => ktr_room); (case k6 => ktr_units)); intro T' t' u' h' tk' F' N' l1; (try k_lt l1); (try dsimp only); (try k_fold)))
def out1 (ns : List Int) (i : Nat) : List Piece := if (piece (cell ns (2 + i))).1 = Str.ofString "%" then [piece (cell ns (2 + i)), (Str.ofString "%41", some (Str.ofString "A"), false)] else [piece (cell ns (2 + i))]
def pieces (ns : List Int) : List Piece := ((List.range (1 + cell ns 1 % 6)).map (out1 ns)).flatten
local macro_rules | `(tactic| walk_at "exec For Name Call cons nil") => `(tactic| (k_here; (with_unfolding_all refine' wpAny_For ?_ ?hs; (case hs => (intro _; rfl)))))
theorem out_two {ns : List Int} {i : Nat} (h : ((piece (cell ns (2 + (i : Int)).toNat)).1 == Str.ofString "%") = true) : [piece (cell ns (2 + (i : Int)).toNat), (Str.ofString "%41", some (Str.ofString "A"), false)] = out1 ns i := by
  have e : (2 + (i : Int)).toNat = 2 + i := by omega
  rw [e] at h ⊢
  unfold out1
  rw [if_pos (eq_of_beq h)]
theorem out_one {ns : List Int} {i : Nat} (h : ((piece (cell ns (2 + (i : Int)).toNat)).1 == Str.ofString "%") = false) : [piece (cell ns (2 + (i : Int)).toNat)] = out1 ns i := by
  have e : (2 + (i : Int)).toNat = 2 + i := by omega
  rw [e] at h ⊢
  unfold out1
  rw [if_neg (ne_of_beq_false h)]
theorem out_len {ns : List Int} {n : Nat} : ∀ {i : Nat}, n ≤ (((List.range i).map (out1 ns)).flatten).length → n ≤ 2 * i
  | 0, h => by simpa using h
  | i + 1, h => by
    rw [List.range_succ, List.map_append, List.flatten_append, List.length_append] at h
    have h1 : ((List.map (out1 ns) [i]).flatten).length ≤ 2 := by
      simp only [List.map_cons, List.map_nil, List.flatten_cons, List.flatten_nil, List.append_nil]
      unfold out1
      split <;> simp
    have := @out_len ns (((List.range i).map (out1 ns)).flatten).length i (Nat.le_refl _)
    omega
local macro_rules | `(tactic| walk_at "call builtin:list.append") => `(tactic| (k_here; (with_reducible show wpAny _ _ (call (Value.builtin "list.append") [Value.ref _, Value.ref _]) _ _ _); k_dflt (refine' append_its ?F ?N ?m ?U ?z ?_; (case F => k_asm); (case N => k_asm); (case m => k_mem); (case U => k_upd); (case z => first | omega | ((simp only [List.length_append, List.length_cons, List.length_nil]; omega))); intro h' F' N'; (try k_sweep))))
local macro_rules | `(tactic| walk_at "subscriptTail") => `(tactic| (k_here; (with_reducible show wpAny _ _ (subscriptTail _ _ (Value.ref _) (Value.int _ _)) _ _ _); k_dflt (refine' sub_last ?N ?m ?z ?_ ?s; (case N => k_asm); (case m => k_mem); (case s => with_unfolding_all rfl); (case z => first | omega | ((simp only [List.length_append, List.length_cons, List.length_nil]; omega)))); (try dsimp only)))
local macro_rules | `(tactic| walk_at "subscriptTail") => `(tactic| (k_here; (with_reducible show wpAny _ _ (subscriptTail _ _ (Value.ref _) (Value.int 0 _)) _ _ _); k_dflt (refine' sub_p0 ?N ?m ?_ ?s; (case N => k_asm); (case m => k_mem); (case s => with_unfolding_all rfl)); (try dsimp only)))
local macro_rules | `(tactic| walk_at "call builtin:list.append") => `(tactic| (k_here; (with_reducible show wpAny _ _ (call (Value.builtin "list.append") [Value.ref _, Value.ref _]) _ _ _); k_dflt (refine' append_tup ?F ?N ?m ?U ?z ?_; (case F => k_asm); (case N => k_asm); (case m => k_mem); (case U => k_upd); (case z => first | omega | ((simp only [List.length_append, List.length_cons, List.length_nil]; omega))); intro h' F' N'; (try k_sweep))))
theorem law_pieces {w : World} {loose : List Str} {mean : ExcName → Option Value} {mg mb : Str → Option Value} {news : List (Addr × Obj)} {sa : Addr} {vs : List Value} {ns : List Int}
  {dp un : Nat} {gd : Option (List Code)} {cn : Str} {cs : Scope} {a : Addr} {ccd : Value} {cl : List (Str × Addr)} {outer : List Env} {A₀ : Around} {base h₀ : Heap} {L : Addr} {m : Str → Option Value} {s : Shared} {Q E : Value → Shared → Prop}
    (P : At 3 w loose mean mg mb dp un cs outer A₀ base h₀) (F : Fr h₀ L s.heap m) (N : News h₀ L s.heap news)
    (hL : base.IsList sa vs.toArray) (hI : IntsAre vs ns) (hlen : ns.length ≤ 63)
    (hret : ∀ T its n h' tk', Fr h₀ L h' m → News h₀ L h' ((T, listOf (refs its).toArray n) :: (objs its ++ news)) → pcs its = pieces ns → Q (.ref T) { s with heap := h', toks := tk' }) :
    wpAny (model Challenge.rw_fe0139_01.row.prog w) (Ar none dp un gd cn cs L a ccd cl outer) (call (.ref 155) [.ref sa]) Q E s := by
  obtain ⟨B, X, T, hk, hdp, hun⟩ := P
  revert X
  k_fill
  intro X
  refine wpAny_call ?_
  k_dflt (refine' code_def (binds := [(Str.ofString "script", .ref sa)]) ?k1 ?k2 ?k3 ?k4 ?k5 ?kA ?kF ?kK ?k6 ?k7 ?k8 ?k9 ?kB ?_ ?c2 ?c3 ?c4 ?c5; (case kA => exact rfl); (case kF => exact rfl); (case kK => assumption); (case k1 => k_asm); (case k2 => k_asm); (case k3 => k_asm); (case k4 => k_asm); (case k5 => k_asm); (case k6 => k_is); (case k7 => k_is); (case k8 => ktr_room); (case k9 => exact BindsTo.of_eq rfl); (case c5 => decide); (case kB => exact locs rfl); (case c2 => exact rfl); (case c3 => exact rfl); (case c4 => exact rfl); k_whole; intro g' L' h' FG' F' N' B' X' T'; (try dsimp only); (try k_lift B'); (try k_fold))
  k_steps
  (with_reducible rename IsRange _ _ _ _ _ _ _ _ => hr)
  (with_reducible rename Fr _ _ _ _ => Fq)
  (with_reducible rename News _ _ _ _ => Nq)
  (with_reducible rename ∀ p, p ∈ news → p.1 < _ => lq)
  have hne : ∀ p ∈ news, p.1 ≠ _ := fun p hp => Nat.ne_of_lt (lq p hp)
  refine loop_grow (cnt := 1 + cell ns 1 % 6) (out1 ns) rfl rfl rfl hr ?_ (by omega) Fq Nq hne (by passes_own) ?_ ?_
  · show 1 + ((cell ns 1 : Nat) : Int).fmod 6 = _
    rw [Int.fmod_eq_emod_of_nonneg _ (by decide)]
    omega
  · intro i its n h tk t tl hi hlen9 hne2 F3 N3
    have hil := out_len hlen9
    have hi6 : i < 6 := by omega
    dsimp only
    k_steps
    · (with_reducible rename Fr _ _ _ _ => Fe)
      (with_reducible rename News _ _ _ _ => Ne)
      (with_reducible rename (_ == _) = true => he)
      exact end_two Fe (fun z hz => if_neg hz) Ne rfl (out_two he)
    · (with_reducible rename Fr _ _ _ _ => Fe)
      (with_reducible rename News _ _ _ _ => Ne)
      (with_reducible rename (_ == _) = false => he)
      exact end_one Fe (fun z hz => if_neg hz) Ne (out_one he)
  · intro its n h tk u hpc F3 N3
    dsimp only
    k_steps
    exact hret _ its n _ _ (by assumption) (by assumption) hpc
end Mine
namespace Mine
open PySem PySem.W PyProof.Rows PySem.Spec
section
variable {prog : Program} {w : World} {A : Around} {E : Value → Shared → Prop} {s : Shared} {env : Env} {h₀ : Heap} {body : List Stmt} {Q : Flow → Shared → Prop}
def RdEnd (h₀ : Heap) (L : Addr) (vf : Str) (stored : List Str) (m₀ : Str → Option Value) (tl : List (Addr × Obj)) (acc : Str) (s s' : Shared) : Prop :=
  ∃ h' tk' m' ta, s' = { s with heap := h', toks := tk' } ∧ Fr h₀ L h' m' ∧ m' vf = some (.str acc ta) ∧ (∀ z, z ≠ vf → stored.contains z = false → m' z = m₀ z) ∧ News h₀ L h' tl
def RdPost (h₀ : Heap) (L : Addr) (vf : Str) (stored : List Str) (m₀ : Str → Option Value) (tl : List (Addr × Obj)) (acc : Str) (s : Shared) (Q : Flow → Shared → Prop) (f : Flow) (s' : Shared) : Prop :=
  match f with
  | .ret v => Q (.ret v) s'
  | .brk => Q .next s'
  | _ => RdEnd h₀ L vf stored m₀ tl acc s s'
theorem rdEnd_ {L : Addr} {vf : Str} {stored : List Str} {m₀ m' : Str → Option Value} {tl : List (Addr × Obj)} {acc : Str} {h' : Heap} {tk' : Nat} {ta : Tok} (F : Fr h₀ L h' m') (N : News h₀ L h' tl) (hv : m' vf = some (.str acc ta)) (hm : ∀ z, z ≠ vf → stored.contains z = false → m' z = m₀ z) :
    RdPost h₀ L vf stored m₀ tl acc s Q .next { s with heap := h', toks := tk' } := ⟨h', tk', m', ta, rfl, F, hv, hm, N⟩
theorem forLoop_red {R : Result → Shared → Prop} {elts : List PySem.Expr} {k : Nat} {pos : Pos} {FL I : Addr} {its : Its} {n : Nat} {m₀ : Str → Option Value} {news : List (Addr × Obj)} {vf a0 : Str} {t0 : Tok} (stored : List Str) (f : Str → Piece → Str)
    (hh : A.handled = none) (hF : Fr h₀ env.locals s.heap m₀) (N : News h₀ env.locals s.heap news) (hl : (FL, listOf (refs its).toArray n) ∈ news) (hO : ∀ p ∈ objs its, p ∈ news) (h0 : m₀ vf = some (.str a0 t0))
    (hI : s.heap.IsListIter I FL 0) (hI1 : I ≠ env.locals) (hI2 : h₀.get? I = none) (hI3 : ∀ p ∈ news, p.1 ≠ I)
    (turn : ∀ i q acc ta h tk (u : Str → Option Value) tl, its[i]? = some q → acc = (pcs (its.take i)).foldl f a0 → Fr h₀ env.locals h (fun y => if y = vf then some (.str acc ta) else if stored.contains y then u y else m₀ y) →
      News h₀ env.locals h ((q.1, pObj q.2.1 q.2.2.1 q.2.2.2) :: tl) →
      wpAny (model prog w) A (assign (.Tuple elts k pos) env (.ref q.1)) (fun _ s₂ => wpAny (model prog w) A (execs body env) (RdPost h₀ env.locals vf stored m₀ ((q.1, pObj q.2.1 q.2.2.1 q.2.2.2) :: tl) (f acc q.2.1) { s with heap := h, toks := tk } (fun f s' => R (.ok f) s')) (notedBy (model prog w) A env fun e s' => R (.error e) s') s₂) (notedBy (model prog w) A env fun e s' => R (.error e) s') { s with heap := h, toks := tk })
    (done : ∀ ta h tk (u : Str → Option Value), Fr h₀ env.locals h (fun y => if y = vf then some (.str ((pcs its).foldl f a0) ta) else if stored.contains y then u y else m₀ y) → News h₀ env.locals h news → R (.ok .next) { s with heap := h, toks := tk }) :
    codeAny (model prog w) A (.forLoop (.Tuple elts k pos) (.ref I) body [] env) R s := by
  have nFI : FL ≠ I := hI3 _ hl
  have W := Walks.list (prog := prog) (w := w) hh I FL nFI (refs its).toArray
  have hlen : (refs its).toArray.size = its.length := by simp [refs]
  rw [hlen] at W
  have norm : ∀ (m' : Str → Option Value) acc ta, m' vf = some (.str acc ta) → (∀ z, z ≠ vf → stored.contains z = false → m' z = m₀ z) → m' = fun y => if y = vf then some (.str acc ta) else if stored.contains y then m' y else m₀ y := by
    intro m' acc ta h1 h2
    funext z
    by_cases hz : z = vf
    · rw [if_pos hz, hz, h1]
    · rw [if_neg hz]
      cases h3 : stored.contains z with
      | true => rw [if_pos rfl]
      | false => rw [if_neg Bool.false_ne_true]; exact h2 z hz h3
  refine codeAny_forLoop_any
    (fun k s' => ∃ h' tk m' i ta, s' = { s with heap := h', toks := tk } ∧ h'.IsListIter I FL i ∧ Fr h₀ env.locals h' m' ∧ m' vf = some (.str ((pcs (its.take i)).foldl f a0) ta) ∧ (∀ z, z ≠ vf → stored.contains z = false → m' z = m₀ z) ∧ News h₀ env.locals h' news ∧ i ≤ its.length ∧ k = its.length + 1 - i) ?_ (its.length + 1)
    ⟨s.heap, s.toks, m₀, 0, t0, rfl, hI, hF, h0, fun _ _ _ => rfl, N, Nat.zero_le _, rfl⟩
  rintro k s' ⟨h', tk, m', i, ta, rfl, hit, F', hv, hm, N', hi, rfl⟩
  have hls : h'.IsList FL (refs its).toArray := ⟨_, (N' _ hl).1, rfl, n, rfl⟩
  have next : ∀ h₁ : Heap, (∀ b o, b ∉ [I] → h'.get? b = some o → h₁.get? b = some o) → Fr h₀ env.locals h₁ m' ∧ News h₀ env.locals h₁ news := fun h₁ hk₁ =>
    ⟨⟨F'.ns.at' fun o e => hk₁ _ o (fun hm => hI1 (List.mem_singleton.mp hm).symm) e, fun b o e => hk₁ b o (fun hm => by rw [List.mem_singleton.mp hm, hI2] at e; cases e) (F'.keep b o e), F'.above⟩,
     fun p hp => ⟨hk₁ _ _ (fun hm => hI3 p hp (List.mem_singleton.mp hm)) (N' p hp).1, (N' p hp).2⟩⟩
  by_cases hlt : i < its.length
  · refine W.item i _ _ _ hlt ⟨hit, hls⟩ fun v h₁ tk₁ hPv hst₁ hk₁ => ?_
    obtain ⟨F₁, N₁⟩ := next h₁ hk₁
    obtain ⟨q, hq, rfl⟩ : ∃ q, its[i]? = some q ∧ v = .ref q.1 := by
      unfold refs at hPv
      rw [List.getElem?_toArray, List.getElem?_map] at hPv
      cases hi : its[i]? with
      | none => rw [hi] at hPv; cases hPv
      | some y => rw [hi] at hPv; exact ⟨y, rfl, (Option.some.inj hPv).symm⟩
    refine wpAny_letOwnedTupleGo_listiter hst₁.1 ?_
    obtain ⟨oI, hoI, hoI'⟩ := hst₁.1
    have hqo : (q.1, pObj q.2.1 q.2.2.1 q.2.2.2) ∈ news := hO _ (List.mem_map.mpr ⟨q, List.mem_of_getElem? hq, rfl⟩)
    have N₂ : News h₀ env.locals h₁ ((q.1, pObj q.2.1 q.2.2.1 q.2.2.2) :: ((I, oI) :: news)) := by
      intro p hp
      rcases List.mem_cons.mp hp with rfl | hp
      · exact N₁ _ hqo
      rcases List.mem_cons.mp hp with rfl | hp
      · exact ⟨hoI, hI1, hI2⟩
      · exact N₁ p hp
    have F₂ := F₁
    rw [norm m' _ _ hv hm] at F₂
    refine wpAny_mono (turn i q _ ta h₁ _ m' _ hq rfl F₂ N₂) (fun _ s₂ h₂ => wpAny_mono h₂ (fun fl s₃ h₃ => ?_) fun _ _ e => e) fun _ _ e => e
    have fin : ∀ tkx, RdEnd h₀ env.locals vf stored m₀ ((q.1, pObj q.2.1 q.2.2.1 q.2.2.2) :: ((I, oI) :: news)) (f ((pcs (its.take i)).foldl f a0) q.2.1) { s with heap := h₁, toks := tkx } s₃ → ∃ m, m < its.length + 1 - i ∧ ∃ h' tk m' i ta, s₃ = { s with heap := h', toks := tk } ∧ h'.IsListIter I FL i ∧ Fr h₀ env.locals h' m' ∧ m' vf = some (.str ((pcs (its.take i)).foldl f a0) ta) ∧ (∀ z, z ≠ vf → stored.contains z = false → m' z = m₀ z) ∧ News h₀ env.locals h' news ∧ i ≤ its.length ∧ m = its.length + 1 - i := by
      rintro tkx ⟨h'', tk'', m'', ta', e', F'', hv'', hm'', N''⟩
      have hI'' := N'' (I, oI) (by simp)
      refine ⟨its.length + 1 - (i + 1), by omega, h'', tk'', m'', i + 1, ta', e', ⟨oI, hI''.1, hoI'⟩, F'', ?_, hm'', cb_drop N'' (fun _ h => .tail _ (.tail _ h)), hlt, rfl⟩
      rw [hv'']
      have e1 : its.take (i + 1) = its.take i ++ [q] := by rw [List.take_add_one, hq]; rfl
      rw [e1]
      simp [pcs]
    cases fl with
    | ret v => exact h₃
    | brk => exact h₃
    | cont => exact fin _ h₃
    | next => exact fin _ h₃
  · have hin : i = its.length := by omega
    subst hin
    refine W.done _ _ _ ⟨hit, hls⟩ fun h₁ tk₁ hk₁ => wpAny_execs_nil ?_
    obtain ⟨F₁, N₁⟩ := next h₁ hk₁
    rw [List.take_length] at hv
    rw [norm m' _ _ hv hm] at F₁
    exact done ta h₁ tk₁ m' F₁ N₁
theorem loop_red {elts : List PySem.Expr} {k : Nat} {pos : Pos} {FL : Addr} {its : Its} {n : Nat} {m₀ : Str → Option Value} {news : List (Addr × Obj)} {vf a0 : Str} {t0 : Tok} (stored : List Str) (f : Str → Piece → Str)
    (hh : A.handled = none) (hF : Fr h₀ env.locals s.heap m₀) (N : News h₀ env.locals s.heap news) (hl : (FL, listOf (refs its).toArray n) ∈ news) (hO : ∀ p ∈ objs its, p ∈ news) (h0 : m₀ vf = some (.str a0 t0)) (hE : PassesOwn (model prog w) A env E)
    (turn : ∀ i q acc ta h tk (u : Str → Option Value) tl, its[i]? = some q → acc = (pcs (its.take i)).foldl f a0 → Fr h₀ env.locals h (fun y => if y = vf then some (.str acc ta) else if stored.contains y then u y else m₀ y) →
      News h₀ env.locals h ((q.1, pObj q.2.1 q.2.2.1 q.2.2.2) :: tl) →
      wpAny (model prog w) A (assign (.Tuple elts k pos) env (.ref q.1)) (fun _ s₂ => wpAny (model prog w) A (execs body env) (RdPost h₀ env.locals vf stored m₀ ((q.1, pObj q.2.1 q.2.2.1 q.2.2.2) :: tl) (f acc q.2.1) { s with heap := h, toks := tk } Q) E s₂) E { s with heap := h, toks := tk })
    (done : ∀ ta h tk (u : Str → Option Value), Fr h₀ env.locals h (fun y => if y = vf then some (.str ((pcs its).foldl f a0) ta) else if stored.contains y then u y else m₀ y) → News h₀ env.locals h news → Q .next { s with heap := h, toks := tk }) :
    wpAny (model prog w) A (pyIter (.ref FL)) (fun it s₂ => codeAny (model prog w) A (.forLoop (.Tuple elts k pos) it body [] env) (fun r s' => match r with | .ok f => Q f s' | .error e => cameBackBy (model prog w) A env E e s') s₂) E s := by
  have hls : s.heap.IsList FL (refs its).toArray := ⟨_, (N _ hl).1, rfl, n, rfl⟩
  refine wpAny_pyIter_list hls ?_
  have lt : ∀ p ∈ news, p.1 ≠ s.heap.objs.size := fun p hp => Nat.ne_of_lt (Heap.lt_size (N p hp).1)
  refine forLoop_red (s := { s with heap := s.heap.push { cls := .type "list_iterator", data := .fields #[.ref FL, .int 0 0] } }) stored f hh (hF.push _) (fun p hp => ⟨Heap.get?_push_of_some _ (N p hp).1, (N p hp).2⟩) hl hO h0
    ⟨_, Heap.get?_push_size _ rfl, rfl, rfl⟩ (Nat.ne_of_gt hF.ns.lt) (next_is_new hF) lt ?_ ?_
  · intro i q acc ta h tk u tl a1 a2 a3 a4
    exact wpAny_mono (wpAny_passesOwn hE (turn i q acc ta h tk u tl a1 a2 a3 a4)) (fun _ _ h => wpAny_passesOwn hE h) fun _ _ e => e
  · intro ta h tk u a1 a2
    exact done ta h tk u a1 a2
end
end Mine
namespace Mine
open PySem PySem.W PyProof.Rows
local macro_rules | `(tactic| k_all) => `(tactic| assumption)
local macro_rules | `(tactic| walk_at "exec For Tuple Name cons nil") => `(tactic| (k_here; (with_unfolding_all refine' wpAny_For ?_ ?hs; (case hs => (intro _; rfl)))))
def tail1 (x : Str) : Str := ⟨(x.cps.toList.drop 1).toArray⟩
def upS (x : Str) : Str := ⟨x.cps.map up⟩
def isIn (z rd : Str) : Bool := !(Builtin.Str.occurrences rd z 0 rd.length 1).isEmpty
def due1 (rd : Str) (g st : Bool) (p : Piece) : Str := match p.2.1 with
  | some z => if isIn z rd then z else Str.ofString "%" ++ (if g then upS (tail1 p.1) else tail1 p.1)
  | none => if p.2.2 && st then Str.ofString "%25" ++ tail1 p.1 else p.1
def due (rd : Str) (g st : Bool) (ps : List Piece) : Str := ps.foldl (fun a p => a ++ due1 rd g st p) Str.empty
def PieceOk (p : Piece) : Prop := (1 ≤ p.1.length ∧ p.1.length ≤ 3) ∧ (∀ c ∈ p.1.cps.toList, c < 128) ∧ (∀ z, p.2.1 = some z → z.length = 1)
theorem slice_tail {x : Str} (h : 1 ≤ x.length) : Txt.slice x (some 1) none = tail1 x := by
  rw [slice_from_eq (by omega) (by omega) rfl]
  unfold tail1
  rw [List.take_of_length_le (by
    have : x.length = x.cps.toList.length := (Array.length_toList).symm
    rw [List.length_drop]
    omega)]
  rfl
theorem tail_len (x : Str) : (tail1 x).length ≤ x.length := by
  show (x.cps.toList.drop 1).toArray.size ≤ x.cps.size
  rw [List.size_toArray, List.length_drop, Array.length_toList]
  omega
theorem up_len (x : Str) : (upS x).length = x.length := Array.size_map ..
theorem upper_asc : ∀ (l : List Nat), (∀ c ∈ l, c < 128) → Txt.upper ⟨l.toArray⟩ = upS ⟨l.toArray⟩
  | [], _ => by decide +kernel
  | c :: l, h => by
    have e : (⟨(c :: l).toArray⟩ : Str) = ⟨#[c]⟩ ++ ⟨l.toArray⟩ := PySem.Str.ext' (by rw [PySem.Str.cps_append]; simp)
    rw [e, KOpn.upper_app, KOpn.upper_one (h c (.head _)), upper_asc l fun d hd => h d (.tail _ hd)]
    refine PySem.Str.ext' ?_
    unfold upS
    rw [PySem.Str.cps_append, PySem.Str.cps_append]
    simp [up]
theorem due1_len {rd : Str} {g st : Bool} {p : Piece} (h : PieceOk p) : (due1 rd g st p).length ≤ 6 := by
  obtain ⟨⟨h1, h2⟩, _, h3⟩ := h
  have ht := tail_len p.1
  unfold due1
  split
  · rename_i z hz
    have := h3 z hz
    split
    · omega
    · rw [PySem.Str.length_append]
      have e : (Str.ofString "%").length = 1 := rfl
      split
      · rw [up_len]; omega
      · omega
  · split
    · rw [PySem.Str.length_append]
      have e : (Str.ofString "%25").length = 3 := rfl
      omega
    · omega
theorem due_len {rd : Str} {g st : Bool} : ∀ (ps : List Piece) (a : Str), (∀ p ∈ ps, PieceOk p) → (ps.foldl (fun a p => a ++ due1 rd g st p) a).length ≤ a.length + ps.length * 6
  | [], a, _ => Nat.le_refl _
  | p :: ps, a, h => by
    have h1 := due_len (rd := rd) (g := g) (st := st) ps (a ++ due1 rd g st p) fun q hq => h q (.tail _ hq)
    have h2 := due1_len (rd := rd) (g := g) (st := st) (h p (.head _))
    rw [PySem.Str.length_append] at h1
    rw [List.foldl_cons, List.length_cons]
    omega
theorem acc_len {rd : Str} {g st : Bool} {its : Its} {i : Nat} {acc : Str} (hok : ∀ q ∈ its, PieceOk q.2.1) (hI : its.length ≤ 12) (h : acc = (pcs (its.take i)).foldl (fun a p => a ++ due1 rd g st p) Str.empty) : acc.length ≤ 100 := by
  have h1 := due_len (rd := rd) (g := g) (st := st) (pcs (its.take i)) Str.empty fun p hp => by
    obtain ⟨q, hq, rfl⟩ := List.mem_map.mp hp
    exact hok q (List.mem_of_mem_take hq)
  rw [← h] at h1
  have h2 : (pcs (its.take i)).length ≤ 12 := by
    rw [pcs, List.length_map, List.length_take]
    omega
  have h3 : Str.empty.length = 0 := rfl
  omega
section
variable {prog : Program} {w : World} {A : Around} {E : Value → Shared → Prop} {s : Shared} {Q : Value → Shared → Prop}
theorem upper_sl {x : Str} {t : Tok} (h1 : 1 ≤ x.length) (h2 : x.length ≤ 3) (h3 : ∀ c ∈ x.cps.toList, c < 128) (h : ∀ t' k', Q (.str (upS (Txt.slice x (some 1) none)) t') { s with toks := k' }) : wpAny (model prog w) A (call (.builtin "str.upper") [.str (Txt.slice x (some 1) none) t]) Q E s := by
  have e : Txt.upper (Txt.slice x (some 1) none) = upS (Txt.slice x (some 1) none) := by
    rw [slice_tail h1]
    exact upper_asc _ fun c hc => h3 c (List.mem_of_mem_drop hc)
  have hl : (Txt.slice x (some 1) none).length ≤ x.length := Txt.slice_le x _ _
  exact KXw.upper e (fit_upper (by omega)) h
end
section
variable {rd tx z : Str} {g st ln : Bool}
theorem d1 (h : 1 ≤ tx.length) (h1 : ln = true) (h2 : st = true) : Str.ofString "%25" ++ Txt.slice tx (some 1) none = due1 rd g st (tx, none, ln) := by subst h1 h2; rw [slice_tail h]; rfl
theorem d2 (h : st = false) : tx = due1 rd g st (tx, none, ln) := by subst h; cases ln <;> rfl
theorem d3 (h : ln = false) : tx = due1 rd g st (tx, none, ln) := by subst h; rfl
theorem d4 (h : 1 ≤ tx.length) (h1 : (Builtin.Str.occurrences rd z 0 rd.length 1).isEmpty = true) (h2 : g = true) : Str.ofString "%" ++ upS (Txt.slice tx (some 1) none) = due1 rd g st (tx, some z, ln) := by
  subst h2
  unfold due1 isIn
  dsimp only
  rw [slice_tail h, h1]
  rfl
theorem d5 (h : 1 ≤ tx.length) (h1 : (Builtin.Str.occurrences rd z 0 rd.length 1).isEmpty = true) (h2 : g = false) : Str.ofString "%" ++ Txt.slice tx (some 1) none = due1 rd g st (tx, some z, ln) := by
  subst h2
  unfold due1 isIn
  dsimp only
  rw [slice_tail h, h1]
  rfl
theorem d6 (h1 : (Builtin.Str.occurrences rd z 0 rd.length 1).isEmpty = false) : z = due1 rd g st (tx, some z, ln) := by
  unfold due1 isIn
  dsimp only
  rw [h1]
  rfl
end
theorem rdEnd2 {s : Shared} {h₀ : Heap} {Q : Flow → Shared → Prop} {L : Addr} {vf : Str} {stored : List Str} {m₀ m' : Str → Option Value} {tl : List (Addr × Obj)} {acc x y : Str} {h' : Heap} {tk' : Nat} {ta : Tok} (e : x = y) (F : Fr h₀ L h' m') (N : News h₀ L h' tl) (hv : m' vf = some (.str (acc ++ x) ta)) (hm : ∀ z, z ≠ vf → stored.contains z = false → m' z = m₀ z) :
    RdPost h₀ L vf stored m₀ tl (acc ++ y) s Q .next { s with heap := h', toks := tk' } := by
  subst e
  exact rdEnd_ F N hv hm
theorem not3 {a b c z : Str} (h : [a, b, c].contains z = false) : z ≠ a ∧ z ≠ b ∧ z ≠ c := by
  refine ⟨?_, ?_, ?_⟩ <;> (rintro rfl; simp at h)
local macro_rules | `(tactic| walk_at "binaryOp Add str str") => `(tactic| (k_here; (with_reducible show wpAny _ _ (binaryOp Operator.Add (Value.str _ _) (Value.str _ _)) _ _ _); (refine KOpn.add (by omega) ?_); intro t' k' hl'))
local macro_rules | `(tactic| walk_at "call builtin:str.upper") => `(tactic| (k_here; (with_reducible show wpAny _ _ (call (Value.builtin "str.upper") [Value.str _ _]) _ _ _); (refine upper_sl (by assumption) (by assumption) (by assumption) ?_); intro t' k'))
theorem law_due {w : World} {loose : List Str} {mean : ExcName → Option Value} {mg mb : Str → Option Value} {news : List (Addr × Obj)} {FL : Addr} {its : Its} {n : Nat} {rd : Str} {rt : Tok} {g st : Bool}
  {dp un : Nat} {gd : Option (List Code)} {cn : Str} {cs : Scope} {a : Addr} {ccd : Value} {cl : List (Str × Addr)} {outer : List Env} {A₀ : Around} {base h₀ : Heap} {L : Addr} {m : Str → Option Value} {s : Shared} {Q E : Value → Shared → Prop}
    (P : At 2 w loose mean mg mb dp un cs outer A₀ base h₀) (F : Fr h₀ L s.heap m) (N : News h₀ L s.heap news)
    (hF : (FL, listOf (refs its).toArray n) ∈ news) (hO : ∀ p ∈ objs its, p ∈ news) (hI : its.length ≤ 12) (hok : ∀ q ∈ its, PieceOk q.2.1)
    (hret : ∀ t h' tk', Fr h₀ L h' m → News h₀ L h' news → Q (.str (due rd g st (pcs its)) t) { s with heap := h', toks := tk' }) :
    wpAny (model Challenge.rw_fe0139_01.row.prog w) (Ar none dp un gd cn cs L a ccd cl outer) (call (.ref 162) [.ref FL, .str rd rt, .bool g, .bool st]) Q E s := by
  obtain ⟨B, X, T, hk, hdp, hun⟩ := P
  revert X
  k_fill
  intro X
  refine wpAny_call ?_
  k_dflt (refine' code_def (binds := [(Str.ofString "pieces", .ref FL), (Str.ofString "is_read", .str rd rt), (Str.ofString "great", .bool g), (Str.ofString "stray", .bool st)]) ?k1 ?k2 ?k3 ?k4 ?k5 ?kA ?kF ?kK ?k6 ?k7 ?k8 ?k9 ?kB ?_ ?c2 ?c3 ?c4 ?c5; (case kA => exact rfl); (case kF => exact rfl); (case kK => assumption); (case k1 => k_asm); (case k2 => k_asm); (case k3 => k_asm); (case k4 => k_asm); (case k5 => k_asm); (case k6 => k_is); (case k7 => k_is); (case k8 => ktr_room); (case k9 => exact BindsTo.of_eq rfl); (case c5 => decide); (case kB => exact locs rfl); (case c2 => exact rfl); (case c3 => exact rfl); (case c4 => exact rfl); k_whole; intro g' L' h' FG' F' N' B' X' T'; (try dsimp only); (try k_lift B'); (try k_fold))
  k_steps
  (with_reducible rename Fr _ _ _ _ => Fq)
  (with_reducible rename News _ _ _ _ => Nq)
  refine loop_red (its := its) (n := n) (vf := Str.ofString "found") (a0 := Str.empty) [Str.ofString "text", Str.ofString "sign", Str.ofString "is_lone"] (fun a p => a ++ due1 rd g st p) rfl Fq Nq hF hO rfl (by passes_own) ?_ ?_
  · intro i q acc ta h tk u tl hi hacc F3 N3
    have hz := acc_len hok hI hacc
    obtain ⟨T, ⟨tx, sn, ln⟩, t, v⟩ := q
    have hq := hok _ (List.mem_of_getElem? hi)
    obtain ⟨⟨hq0, hq1⟩, hq2, hq3⟩ := hq
    dsimp only at hq0 hq1 hq2 hq3
    have hs3 : (Txt.slice tx (some 1) none).length ≤ 3 := Nat.le_trans (Txt.slice_le tx _ _) hq1
    have hu3 : (upS (Txt.slice tx (some 1) none)).length ≤ 3 := by rw [up_len]; exact hs3
    have hl25 : (Str.ofString "%25").length = 3 := rfl
    have hl1 : (Str.ofString "%").length = 1 := rfl
    cases sn with
    | none =>
      change News _ _ _ ((T, tup (.str tx t) .none (.bool ln)) :: tl) at N3
      dsimp only
      k_steps
      · (with_reducible rename Fr _ _ _ _ => Fe); (with_reducible rename News _ _ _ _ => Ne); exact rdEnd2 (d1 hq0 (by assumption) (by assumption)) Fe Ne rfl (by intro y h1 h2; have h3 := not3 h2; simp only [if_neg h1, if_neg h3.1, if_neg h3.2.1, if_neg h3.2.2, h2, Bool.false_eq_true, if_false])
      · (with_reducible rename Fr _ _ _ _ => Fe); (with_reducible rename News _ _ _ _ => Ne); exact rdEnd2 (d2 (by assumption)) Fe Ne rfl (by intro y h1 h2; have h3 := not3 h2; simp only [if_neg h1, if_neg h3.1, if_neg h3.2.1, if_neg h3.2.2, h2, Bool.false_eq_true, if_false])
      · (with_reducible rename Fr _ _ _ _ => Fe); (with_reducible rename News _ _ _ _ => Ne); exact rdEnd2 (d3 (by assumption)) Fe Ne rfl (by intro y h1 h2; have h3 := not3 h2; simp only [if_neg h1, if_neg h3.1, if_neg h3.2.1, if_neg h3.2.2, h2, Bool.false_eq_true, if_false])
    | some z =>
      have hq4 := hq3 z rfl
      change News _ _ _ ((T, tup (.str tx t) (.str z v) (.bool ln)) :: tl) at N3
      dsimp only
      k_steps
      · (with_reducible rename Fr _ _ _ _ => Fe); (with_reducible rename News _ _ _ _ => Ne); exact rdEnd2 (d4 hq0 (by assumption) (by assumption)) Fe Ne rfl (by intro y h1 h2; have h3 := not3 h2; simp only [if_neg h1, if_neg h3.1, if_neg h3.2.1, if_neg h3.2.2, h2, Bool.false_eq_true, if_false])
      · (with_reducible rename Fr _ _ _ _ => Fe); (with_reducible rename News _ _ _ _ => Ne); exact rdEnd2 (d5 hq0 (by assumption) (by assumption)) Fe Ne rfl (by intro y h1 h2; have h3 := not3 h2; simp only [if_neg h1, if_neg h3.1, if_neg h3.2.1, if_neg h3.2.2, h2, Bool.false_eq_true, if_false])
      · (with_reducible rename Fr _ _ _ _ => Fe); (with_reducible rename News _ _ _ _ => Ne); exact rdEnd2 (d6 (by assumption)) Fe Ne rfl (by intro y h1 h2; have h3 := not3 h2; simp only [if_neg h1, if_neg h3.1, if_neg h3.2.1, if_neg h3.2.2, h2, Bool.false_eq_true, if_false])
  · intro ta h tk u F3 N3
    dsimp only
    k_steps
    exact hret _ _ _ (by assumption) (by assumption)
end Mine
namespace Mine
open PySem PySem.W PyProof.Rows PySem.Spec
def keepP (p : Piece) : Bool := !(!(Builtin.Str.occurrences p.1 (Str.ofString "%") 0 p.1.length 1).isEmpty)
section
variable {prog : Program} {w : World} {A : Around} {E : Value → Shared → Prop} {s : Shared} {env : Env} {h₀ : Heap} {L : Addr} {m : Str → Option Value} {news : List (Addr × Obj)} {scope : Scope} {x : Str} {Q : Value → Shared → Prop}
theorem elt_its {C : Addr} {q : Addr × Piece × Tok × Tok} {s₃ : Shared} {m₃ : Str → Option Value} {E' : Value → Shared → Prop} {px pc ps : Pos} {kk : Nat} {Q : Value → Shared → Prop} (hd : (x == ("__debug__" : Str)) = false) (hkind : scope.kind = .function) (hx : scope.names.lookup x = some .local)
    (hN : s₃.heap.Ns C m₃) (hm : m₃ x = some (.ref q.1)) (ho : s₃.heap.get? q.1 = some (pObj q.2.1 q.2.2.1 q.2.2.2)) (h : ∀ k, Q (.str q.2.1.1 q.2.2.1) { s₃ with toks := k }) :
    wpAny (model prog w) A (eval (.Subscript (.Name x px) (.Constant (.int 0) kk pc) ps) (compEnv scope C env)) Q E' s₃ := by
  have ht : IsTup s₃.heap q.1 #[.str q.2.1.1 q.2.2.1, (match q.2.1.2.1 with | none => .none | some z => .str z q.2.2.2), .bool q.2.1.2.2] := ⟨_, ho, rfl, 0, rfl⟩
  refine Subscript_ (wpAny_Name (wpAny_loadName_local (env := compEnv scope C env) hkind hx hN hm ?_) hd)
  refine wpAny_Constant_int ?_
  exact tail_any (s := { s₃ with toks := s₃.toks + 1 }) ht.typeIs slot_tuple_getitem.lookup (getItem_tuple (j := 0) (x := .str q.2.1.1 q.2.2.1) ht (by omega) (by omega) rfl rfl (h _)) (by with_unfolding_all rfl)
theorem comp_its {T : Addr} {its : Its} {n : Nat} {ifs : List PySem.Expr} {elt : PySem.Expr} (keep : Piece → Bool)
    (hh : A.handled = none) (F : Fr h₀ L s.heap m) (N : News h₀ L s.heap news) (hT : (T, listOf (refs its).toArray n) ∈ news) (hO : ∀ p ∈ objs its, p ∈ news) (hsz : its.length ≤ 1000)
    (hkeep : ∀ a b : Piece, a.1 = b.1 → keep a = keep b)
    (tests : ∀ C (q : Addr × Piece × Tok × Tok) (s₃ : Shared) m₃ E', s₃.heap.Ns C m₃ → m₃ x = some (.ref q.1) → s₃.heap.get? q.1 = some (pObj q.2.1 q.2.2.1 q.2.2.2) →
      wpAny (model prog w) A (forIn ifs true fun c r => if r = true then do let ok ← isTrue c (compEnv scope C env) (eval c (compEnv scope C env)); pure (ForInStep.yield ok) else pure (ForInStep.yield r)) (fun ok s₄ => ok = keep q.2.1 ∧ Keeps s₃ s₄) E' s₃)
    (helt : ∀ C (q : Addr × Piece × Tok × Tok) (s₃ : Shared) m₃ E', s₃.heap.Ns C m₃ → m₃ x = some (.ref q.1) → s₃.heap.get? q.1 = some (pObj q.2.1 q.2.2.1 q.2.2.2) →
      wpAny (model prog w) A (eval elt (compEnv scope C env)) (fun y s₄ => (∃ t, y = .str q.2.1.1 t) ∧ Keeps s₃ s₄) E' s₃)
    (h : ∀ D l h' tk n', l.map (·.1) = ((pcs its).filter keep).map (·.1) → Fr h₀ L h' m → News h₀ L h' ((D, listOf (strValues l).toArray n') :: news) → Q (.ref D) { s with heap := h', toks := tk }) :
    wpAny (model prog w) A (pyIter (.ref T)) (CompPost prog w A env scope x ifs elt Q) E s := by
  have hls : s.heap.IsList T (refs its).toArray := ⟨_, (N _ hT).1, rfl, n, rfl⟩
  refine wpAny_pyIter_list hls ?_
  have hTI : T ≠ s.heap.objs.size := Nat.ne_of_lt (Heap.lt_size (N _ hT).1)
  have W := Walks.list (prog := prog) (w := w) hh s.heap.objs.size T hTI (refs its).toArray
  have hlen : (refs its).toArray.size = its.length := by simp [refs]
  rw [hlen] at W
  have at' : ∀ q ∈ its, s.heap.get? q.1 = some (pObj q.2.1 q.2.2.1 q.2.2.2) := fun q hq => (N _ (hO _ (List.mem_map.mpr ⟨q, hq, rfl⟩))).1
  have same : ∀ q ∈ its, ∀ r ∈ its, q.1 = r.1 → q.2.1.1 = r.2.1.1 := by
    intro q hq r hr e
    have h1 := at' q hq
    rw [e, at' r hr] at h1
    have h2 := congrArg Obj.data (Option.some.inj h1)
    simp only [pObj] at h2
    injection h2 with h2
    have h3 := congrArg (fun a : Array Value => a.toList.head?) h2
    simp only [List.head?_cons] at h3
    have h4 := Option.some.inj h3
    injection h4 with h4
    exact h4.symm
  let pT : Value → Bool := fun v => its.any fun q => v == .ref q.1 && keep q.2.1
  have pT_eq : ∀ q ∈ its, pT (.ref q.1) = keep q.2.1 := by
    intro q hq
    show its.any _ = _
    cases hk : keep q.2.1 with
    | true => exact List.any_eq_true.mpr ⟨q, hq, by rw [hk]; simp⟩
    | false =>
      rw [Bool.eq_false_iff]
      intro hc
      obtain ⟨r, hr, hc⟩ := List.any_eq_true.mp hc
      rw [Bool.and_eq_true] at hc
      have e : q.1 = r.1 := by
        have := eq_of_beq hc.1
        injection this
      rw [← hkeep _ _ (same q hq r hr e), hk] at hc
      exact Bool.false_ne_true hc.2
  have item : ∀ (i : Nat) (v : Value), (refs its).toArray[i]? = some v → ∃ q, q ∈ its ∧ its[i]? = some q ∧ v = .ref q.1 := by
    intro i v hv
    unfold refs at hv
    rw [List.getElem?_toArray, List.getElem?_map] at hv
    cases hi : its[i]? with
    | none => rw [hi] at hv; cases hv
    | some y => rw [hi] at hv; exact ⟨y, List.mem_of_getElem? hi, rfl, (Option.some.inj hv).symm⟩
  have hb : s.heap.objs.size = s.heap.objs.size := rfl
  have nI : ∀ b o, s.heap.get? b = some o → b ∉ [s.heap.objs.size] := fun b o e hm => absurd (Heap.lt_size e) (by rw [List.mem_singleton.mp hm]; exact Nat.lt_irrefl _)
  refine ⟨pT, fun v y => ∀ q ∈ its, v = .ref q.1 → ∃ t, y = .str q.2.1.1 t, s.heap.objs.size, _, _, its.length, _, _, rfl, W, by rw [sizeLine_eq]; omega, ⟨⟨_, Heap.get?_push_size _ rfl, rfl, rfl⟩, hls.at fun o e => Heap.get?_push_of_some _ e⟩, ?_, ⟨?_, ?_⟩, ?_⟩
  · intro b hb
    show b < (s.heap.push _).objs.size
    rw [Heap.size_push]
    rcases List.mem_cons.mp hb with rfl | hb
    · exact Nat.lt_succ_self _
    · rw [List.mem_singleton.mp hb]
      exact Nat.lt_succ_of_lt (Heap.lt_size (N _ hT).1)
  · intro C i v s₃ m₃ E' hP hN hm hk _
    obtain ⟨q, hq, _, rfl⟩ := item i v hP
    rw [pT_eq q hq]
    exact tests C q s₃ m₃ E' hN hm (hk _ _ (nI _ _ (at' q hq)) (Heap.get?_push_of_some _ (at' q hq)))
  · intro C i v s₃ m₃ E' hP _ hN hm hk _
    obtain ⟨q, hq, _, rfl⟩ := item i v hP
    refine wpAny_mono (helt C q s₃ m₃ E' hN hm (hk _ _ (nI _ _ (at' q hq)) (Heap.get?_push_of_some _ (at' q hq)))) (fun y s₄ hy => ⟨?_, hy.2⟩) fun _ _ e => e
    intro r hr e
    have e' : q.1 = r.1 := by injection e
    obtain ⟨t, ht⟩ := hy.1
    exact ⟨t, by rw [ht, same q hq r hr e']⟩
  · intro D h' tk ys vs hD hlD hplD hlenV hPv hF hk
    have hvs : vs = refs its := by
      have := walked_is (items := (refs its).toArray) (by rw [hlenV, hlen]) hPv
      simpa using this
    subst hvs
    have hstay : ∀ b o, s.heap.get? b = some o → h'.get? b = some o := fun b o e => hk b o (nI b o e) (Heap.get?_push_of_some _ e)
    have hDn : ∀ b o, s.heap.get? b = some o → b ≠ D := by
      rintro b o e rfl
      have : (s.heap.push { cls := .type "list_iterator", data := .fields #[.ref T, .int 0 0] }).get? b = some o := Heap.get?_push_of_some _ e
      rw [this] at hD
      cases hD
    obtain ⟨n', hDo⟩ := hplD
    have key : ∀ (is : Its), (∀ q ∈ is, q ∈ its) → ∀ (ys : List Value), Paired (fun v y => ∀ q ∈ its, v = Value.ref q.1 → ∃ t, y = Value.str q.2.1.1 t) ((refs is).filter pT) ys → ∃ l : List (Str × Tok), ys = strValues l ∧ l.map (·.1) = ((pcs is).filter keep).map (·.1) := by
      intro is
      induction is with
      | nil => intro _ ys hp; cases hp; exact ⟨[], rfl, rfl⟩
      | cons q is ih =>
        intro hs ys hp
        have hq := hs q (.head _)
        have e1 : (refs (q :: is)).filter pT = if keep q.2.1 = true then .ref q.1 :: (refs is).filter pT else (refs is).filter pT := by
          show List.filter pT (Value.ref q.1 :: refs is) = _
          rw [List.filter_cons, pT_eq q hq]
        have e2 : (pcs (q :: is)).filter keep = if keep q.2.1 = true then q.2.1 :: (pcs is).filter keep else (pcs is).filter keep := by
          show List.filter keep (q.2.1 :: pcs is) = _
          rw [List.filter_cons]
        rw [e1] at hp
        rw [e2]
        by_cases hk : keep q.2.1 = true
        · rw [if_pos hk] at hp ⊢
          cases hp with
          | cons hy hp =>
            obtain ⟨t, rfl⟩ := hy q hq rfl
            obtain ⟨l, rfl, hl⟩ := ih (fun r hr => hs r (.tail _ hr)) _ hp
            exact ⟨(q.2.1.1, t) :: l, rfl, by rw [List.map_cons, List.map_cons, hl]⟩
        · rw [if_neg hk] at hp ⊢
          exact ih (fun r hr => hs r (.tail _ hr)) ys hp
    obtain ⟨l, hl, hl2⟩ := key its (fun _ h => h) ys.toList hF
    have hys : ys = (strValues l).toArray := by rw [← hl]
    subst hys
    have F' : Fr h₀ L h' m := ⟨F.ns.at' fun o e => hstay _ o e, fun b o e => hstay b o (F.keep b o e), F.above⟩
    refine h D l h' tk n' hl2 F' ?_
    intro p hp
    rcases List.mem_cons.mp hp with rfl | hp
    · refine ⟨hDo, ?_, ?_⟩
      · obtain ⟨o, _, _, ho, _⟩ := F.ns
        exact fun e => hDn L o ho e.symm
      · cases e : h₀.get? D with
        | none => rfl
        | some o => exact absurd rfl (hDn D o (F.keep D o e))
    · exact ⟨hstay _ _ (N p hp).1, (N p hp).2⟩
theorem tests_nil {ev : Env} {s₃ : Shared} {E' : Value → Shared → Prop} : wpAny (model prog w) A (forIn ([] : List PySem.Expr) true fun c r => if r = true then do let ok ← isTrue c ev (eval c ev); pure (ForInStep.yield ok) else pure (ForInStep.yield r)) (fun ok s₄ => ok = true ∧ Keeps s₃ s₄) E' s₃ := by
  rw [List.forIn_nil]
  exact wpAny_pure ⟨rfl, ⟨s₃.heap, s₃.toks, rfl, fun _ _ e => e⟩⟩
theorem tests_pct {C : Addr} {q : Addr × Piece × Tok × Tok} {s₃ : Shared} {m₃ : Str → Option Value} {E' : Value → Shared → Prop} {px pc ps p1 p2 : Pos} {kk k1 : Nat} (hd : (x == ("__debug__" : Str)) = false) (hkind : scope.kind = .function) (hx : scope.names.lookup x = some .local)
    (hN : s₃.heap.Ns C m₃) (hm : m₃ x = some (.ref q.1)) (ho : s₃.heap.get? q.1 = some (pObj q.2.1 q.2.2.1 q.2.2.2)) :
    wpAny (model prog w) A (forIn [PySem.Expr.Compare (.Constant (.str (Str.ofString "%")) k1 p1) [.NotIn] [.Subscript (.Name x px) (.Constant (.int 0) kk pc) ps] p2] true fun c r => if r = true then do let ok ← isTrue c (compEnv scope C env) (eval c (compEnv scope C env)); pure (ForInStep.yield ok) else pure (ForInStep.yield r)) (fun ok s₄ => ok = keepP q.2.1 ∧ Keeps s₃ s₄) E' s₃ := by
  rw [List.forIn_cons]
  refine wpAny_bind ?_
  rw [if_pos rfl]
  refine wpAny_bind (wpAny_isTrue_Compare1 ?_ (by rfl))
  refine wpAny_Constant_str ?_
  refine elt_its (s₃ := { s₃ with toks := s₃.toks + 1 }) hd hkind hx hN hm ho fun k => ?_
  refine notIn_str ?_
  refine wpAny_truthy_bool ?_
  refine wpAny_pure ?_
  dsimp only
  rw [List.forIn_nil]
  exact wpAny_pure ⟨rfl, ⟨s₃.heap, _, rfl, fun _ _ e => e⟩⟩
def cat (ys : List Str) : Str := ⟨(ys.map (·.cps.toList)).flatten.toArray⟩
theorem join_cat : ∀ (ys : List Str), Str.join (Str.ofString "") ys = cat ys
  | [] => rfl
  | [x] => PySem.Str.ext' (by simp [cat, Str.join])
  | x :: y :: r => by
    have h := join_cat (y :: r)
    show x ++ Str.ofString "" ++ Str.join (Str.ofString "") (y :: r) = _
    rw [h]
    refine PySem.Str.ext' ?_
    rw [PySem.Str.cps_append, PySem.Str.cps_append]
    have e : (Str.ofString "").cps = #[] := rfl
    rw [e]
    simp [cat]
theorem join_its {D : Addr} {l : List (Str × Tok)} {n : Nat} {t : Tok} (N : News h₀ L s.heap ((D, listOf (strValues l).toArray n) :: news)) (hl : l.length ≤ 100) (hs : ∀ y ∈ l, y.1.length ≤ 100)
    (h : ∀ t' k, Q (.str (cat (l.map (·.1))) t') { s with toks := k }) : wpAny (model prog w) A (call (.builtin "str.join") [.str (Str.ofString "") t, .ref D]) Q E s := by
  have hL : s.heap.IsList D (strValues l).toArray := ⟨_, (N _ (.head _)).1, rfl, n, rfl⟩
  have hsum : ∀ (l : List (Str × Tok)), (∀ y ∈ l, y.1.length ≤ 100) → ((l.map (·.1)).map (·.length)).sum ≤ l.length * 100 := by
    intro l
    induction l with
    | nil => intro _; simp
    | cons a r ih =>
      intro h
      have h1 := ih fun y hy => h y (.tail _ hy)
      have h2 := h a (.head _)
      simp only [List.map_cons, List.sum_cons, List.length_cons]
      omega
  have h1 := hsum l hs
  refine join_listC hL (by simpa using strsAre_of_values l) (by decide) (by rw [List.length_map]; omega) fun t' k => ?_
  rw [show Txt.join (Str.ofString "") (l.map (·.1)) = cat (l.map (·.1)) from (eq_of_beq (join_closes rfl)).trans (join_cat _)]
  exact h t' k
theorem join_ys {D : Addr} {l : List (Str × Tok)} {n : Nat} {t : Tok} {ys : List Str} (N : News h₀ L s.heap ((D, listOf (strValues l).toArray n) :: news)) (e : l.map (·.1) = ys) (hl : ys.length ≤ 100) (hs : ∀ y ∈ ys, y.length ≤ 100)
    (h : ∀ t' k, Q (.str (cat ys) t') { s with toks := k }) : wpAny (model prog w) A (call (.builtin "str.join") [.str (Str.ofString "") t, .ref D]) Q E s := by
  subst e
  exact join_its N (by simpa using hl) (fun y hy => hs y.1 (List.mem_map.mpr ⟨y, hy, rfl⟩)) h
theorem comp_text {T : Addr} {its : Its} {n : Nat} {px pc ps : Pos} {kk : Nat} (hh : A.handled = none) (F : Fr h₀ L s.heap m) (N : News h₀ L s.heap news) (hT : (T, listOf (refs its).toArray n) ∈ news) (hO : ∀ p ∈ objs its, p ∈ news) (hsz : its.length ≤ 1000)
    (hd : (x == ("__debug__" : Str)) = false) (hkind : scope.kind = .function) (hx : scope.names.lookup x = some .local)
    (h : ∀ D l h' tk n', l.map (·.1) = (pcs its).map (·.1) → Fr h₀ L h' m → News h₀ L h' ((D, listOf (strValues l).toArray n') :: news) → Q (.ref D) { s with heap := h', toks := tk }) :
    wpAny (model prog w) A (pyIter (.ref T)) (CompPost prog w A env scope x [] (.Subscript (.Name x px) (.Constant (.int 0) kk pc) ps) Q) E s :=
  comp_its (fun _ => true) hh F N hT hO hsz (fun _ _ _ => rfl) (fun _ _ _ _ _ _ _ _ => tests_nil) (fun C q s₃ m₃ E' hN hm ho => elt_its hd hkind hx hN hm ho fun k => ⟨⟨_, rfl⟩, ⟨s₃.heap, k, rfl, fun _ _ e => e⟩⟩)
    (fun D l h' tk n' e => h D l h' tk n' (by rw [e, List.filter_eq_self.mpr (fun _ _ => rfl)]))
theorem comp_plain {T : Addr} {its : Its} {n : Nat} {px pc ps px' pc' ps' p1 p2 : Pos} {kk kk' k1 : Nat} (hh : A.handled = none) (F : Fr h₀ L s.heap m) (N : News h₀ L s.heap news) (hT : (T, listOf (refs its).toArray n) ∈ news) (hO : ∀ p ∈ objs its, p ∈ news) (hsz : its.length ≤ 1000)
    (hd : (x == ("__debug__" : Str)) = false) (hkind : scope.kind = .function) (hx : scope.names.lookup x = some .local)
    (h : ∀ D l h' tk n', l.map (·.1) = ((pcs its).filter keepP).map (·.1) → Fr h₀ L h' m → News h₀ L h' ((D, listOf (strValues l).toArray n') :: news) → Q (.ref D) { s with heap := h', toks := tk }) :
    wpAny (model prog w) A (pyIter (.ref T)) (CompPost prog w A env scope x [.Compare (.Constant (.str (Str.ofString "%")) k1 p1) [.NotIn] [.Subscript (.Name x px') (.Constant (.int 0) kk' pc') ps'] p2] (.Subscript (.Name x px) (.Constant (.int 0) kk pc) ps) Q) E s :=
  comp_its keepP hh F N hT hO hsz (fun a b e => by unfold keepP; rw [e]) (fun _ _ _ _ _ hN hm ho => tests_pct hd hkind hx hN hm ho) (fun C q s₃ m₃ E' hN hm ho => elt_its hd hkind hx hN hm ho fun k => ⟨⟨_, rfl⟩, ⟨s₃.heap, k, rfl, fun _ _ e => e⟩⟩) h
end
end Mine
namespace Mine
open PySem PySem.W PyProof.Rows PySem.Spec
theorem letter_ok (k : Nat) : letters.cps.getD (k % 10) 0 < 128 := by
  have : k % 10 < 10 := by omega
  revert this
  generalize k % 10 = j
  intro hj
  have h : ∀ j, j < 10 → letters.cps.getD j 0 < 128 := by decide +kernel
  exact h j hj
theorem lone_ok (k : Nat) : PieceOk (lones.getD (k % 4) Str.empty, none, true) := by
  have : k % 4 = 0 ∨ k % 4 = 1 ∨ k % 4 = 2 ∨ k % 4 = 3 := by omega
  rcases this with h | h | h | h <;> rw [h] <;> exact ⟨by decide +kernel, by decide +kernel, fun _ h => nomatch h⟩
theorem up_lt {n : Nat} (h : n < 128) : up n < 128 := by unfold up; split <;> omega
theorem three_ok {a b z : Nat} (ha : a < 128) (hb : b < 128) : PieceOk (⟨#[37, a, b]⟩, some ⟨#[z]⟩, false) := by
  refine ⟨⟨(by decide : 1 ≤ 3), (by decide : 3 ≤ 3)⟩, ?_, ?_⟩
  · intro c hc
    simp only [List.mem_cons, List.not_mem_nil, or_false] at hc
    rcases hc with rfl | rfl | rfl
    · decide
    · exact ha
    · exact hb
  · intro z' h
    injection h with h
    subst h
    rfl
theorem piece_ok (c : Nat) : PieceOk (piece c) := by
  unfold piece
  split
  · refine ⟨⟨(by decide : 1 ≤ 1), (by decide : 1 ≤ 3)⟩, ?_, fun _ h => nomatch h⟩
    intro d hd
    simp only [List.mem_cons, List.not_mem_nil, or_false] at hd
    subst hd
    exact letter_ok _
  · split
    · exact lone_ok _
    · split
      · exact three_ok (up_lt (hexd_lt _)) (up_lt (hexd_lt _))
      · exact three_ok (hexd_lt _) (hexd_lt _)
theorem out_ok {ns : List Int} {i : Nat} : ∀ p ∈ out1 ns i, PieceOk p := by
  intro p hp
  unfold out1 at hp
  have h41 : PieceOk (Str.ofString "%41", some (Str.ofString "A"), false) := three_ok (a := 52) (b := 49) (z := 65) (by decide) (by decide)
  split at hp
  · rcases List.mem_cons.mp hp with rfl | hp
    · exact piece_ok _
    · rw [List.mem_singleton.mp hp]; exact h41
  · rw [List.mem_singleton.mp hp]; exact piece_ok _
theorem pieces_ok {ns : List Int} : ∀ p ∈ pieces ns, PieceOk p := by
  intro p hp
  unfold pieces at hp
  obtain ⟨l, hl, hp⟩ := List.mem_flatten.mp hp
  obtain ⟨i, _, rfl⟩ := List.mem_map.mp hl
  exact out_ok p hp
theorem pieces_len {ns : List Int} : (pieces ns).length ≤ 12 := by
  unfold pieces
  have := @out_len ns _ (1 + cell ns 1 % 6) (Nat.le_refl _)
  omega
theorem its_len12 {ns : List Int} {its : Its} (h : pcs its = pieces ns) : its.length ≤ 12 := by
  have h1 := congrArg List.length h
  rw [pcs, List.length_map] at h1
  have := @pieces_len ns
  omega
theorem its_len {ns : List Int} {its : Its} (h : pcs its = pieces ns) : its.length ≤ 1000 := Nat.le_trans (its_len12 h) (by decide)
theorem its_ok {ns : List Int} {its : Its} (h : pcs its = pieces ns) : ∀ q ∈ its, PieceOk q.2.1 := fun q hq => pieces_ok (ns := ns) _ (by rw [← h]; exact List.mem_map.mpr ⟨q, hq, rfl⟩)
theorem texts_len {ns : List Int} {its : Its} (h : pcs its = pieces ns) : ((pcs its).map (·.1)).length ≤ 100 := by
  rw [h, List.length_map]
  exact Nat.le_trans pieces_len (by decide)
theorem texts_each {ns : List Int} {its : Its} (h : pcs its = pieces ns) : ∀ y ∈ (pcs its).map (·.1), y.length ≤ 100 := by
  intro y hy
  rw [h] at hy
  obtain ⟨p, hp, rfl⟩ := List.mem_map.mp hy
  exact Nat.le_trans (pieces_ok p hp).1.2 (by decide)
theorem plain_len {ns : List Int} {its : Its} (h : pcs its = pieces ns) : (((pcs its).filter keepP).map (·.1)).length ≤ 100 := by
  have h1 := texts_len h
  rw [List.length_map] at h1 ⊢
  exact Nat.le_trans (List.length_filter_le _ _) h1
theorem plain_each {ns : List Int} {its : Its} (h : pcs its = pieces ns) : ∀ y ∈ ((pcs its).filter keepP).map (·.1), y.length ≤ 100 := by
  intro y hy
  obtain ⟨p, hp, rfl⟩ := List.mem_map.mp hy
  exact texts_each h _ (List.mem_map.mpr ⟨p, (List.mem_filter.mp hp).1, rfl⟩)
end Mine
namespace Mine
open PySem PySem.W PyProof.Rows PySem.Spec
def notIn (bs z : Str) : Bool := !(!(Builtin.Str.occurrences bs z 0 bs.length 1).isEmpty)
def sel (A bs : Str) : List Str := (A.cps.toList.map fun c => (⟨#[c]⟩ : Str)).filter (notIn bs)
def pSel (bs : Str) : Value → Bool
  | .str z _ => notIn bs z
  | _ => false
theorem sel_key {bs : Str} : ∀ (cs : List Nat) (vs ys : List Value), vs.length = cs.length → (∀ (j : Nat) v, vs[j]? = some v → ∃ c u, cs[j]? = some c ∧ v = .str ⟨#[c]⟩ u) → Paired (fun v y => y = v) (vs.filter (pSel bs)) ys →
    ∃ l : List (Str × Tok), ys = strValues l ∧ l.map (·.1) = (cs.map fun c => (⟨#[c]⟩ : Str)).filter (notIn bs)
  | [], [], ys, _, _, hp => by cases hp; exact ⟨[], rfl, rfl⟩
  | [], _ :: _, _, hl, _, _ => nomatch hl
  | _ :: _, [], _, hl, _, _ => nomatch hl
  | c :: cs, v :: vs, ys, hl, hv, hp => by
    obtain ⟨c', u, hc, rfl⟩ := hv 0 v rfl
    have e : c = c' := Option.some.inj hc
    subst e
    have hl' : vs.length = cs.length := by simpa using hl
    have hv' : ∀ (j : Nat) v, vs[j]? = some v → ∃ c u, cs[j]? = some c ∧ v = .str ⟨#[c]⟩ u := fun j v h => hv (j + 1) v h
    rw [List.filter_cons] at hp
    rw [List.map_cons, List.filter_cons]
    by_cases hk : notIn bs ⟨#[c]⟩ = true
    · rw [if_pos (show pSel bs (.str ⟨#[c]⟩ u) = true from hk)] at hp
      rw [if_pos hk]
      cases hp with
      | cons hy hp =>
        subst hy
        obtain ⟨l, rfl, h⟩ := sel_key cs vs _ hl' hv' hp
        exact ⟨(⟨#[c]⟩, u) :: l, rfl, by rw [List.map_cons, h]⟩
    · rw [if_neg (show ¬ pSel bs (.str ⟨#[c]⟩ u) = true from hk)] at hp
      rw [if_neg hk]
      exact sel_key cs vs _ hl' hv' hp
section
variable {prog : Program} {w : World} {A : Around} {E : Value → Shared → Prop} {s : Shared} {env : Env} {h₀ : Heap} {L : Addr} {m : Str → Option Value} {news : List (Addr × Obj)} {scope : Scope} {x a b : Str} {Q : Value → Shared → Prop}
theorem comp_signs {cl : List (Str × Addr)} {px px0 pa p1 p2 p3 pos : Pos} {AS bs : Str} {ta tb : Tok} {c : Addr} {o : Obj}
    (hh : A.handled = none) (F : Fr h₀ L s.heap m) (N : News h₀ L s.heap news) (hclos : closureFor scope env = pure cl) (hcell : ∀ y ∈ scope.names, y.2 ≠ .cell) (hkind : scope.kind = .function)
    (hnames : ∀ y ∈ scope.names, y.2 = .local → scope.names.lookup y.1 = some .local) (hx : scope.names.lookup x = some .local)
    (hev : ∀ (Q : Value → Shared → Prop), Q (.str AS ta) s → wpAny (model prog w) A (eval (.Name a pa) env) Q E s) (hasc : AS.cps.all (· < 128) = true) (hsz : AS.cps.size ≤ 1000)
    (hm : (c, o) ∈ news) (hd : o.data = .cell (some (.str bs tb))) (hc : cl.lookup b = some c) (hkb : ∀ C, (compEnvC scope cl C env).kindOf b = some .cell)
    (dx : (x == ("__debug__" : Str)) = false) (db : (b == ("__debug__" : Str)) = false)
    (h : ∀ D l h' tk n', l.map (·.1) = sel AS bs → Fr h₀ L h' m → News h₀ L h' ((D, listOf (strValues l).toArray n') :: news) → Q (.ref D) { s with heap := h', toks := tk }) :
    wpAny (model prog w) A (eval (.ListComp (.Name x px0) [⟨.Name x px, .Name a pa, [.Compare (.Name x p1) [.NotIn] [.Name b p2] p3], 0⟩] scope pos) env) Q E s := by
  have hkc : ∀ C, (compEnvC scope cl C env).scope.kind = .function := fun C => by simp [compEnvC, relabel, hkind]
  have hxc : ∀ C, (compEnvC scope cl C env).kindOf x = some .local := fun C => lookup_relabel_local hx
  refine wpAny_ListComp_free (pSel bs) (fun v y => y = v) hclos hcell hkind hnames hx (hev _ (wpAny_pyIter_ascii hasc ?_))
  have W := Walks.strAscii (prog := prog) (w := w) hh s.heap.objs.size AS ta
  have nI : ∀ b o, s.heap.get? b = some o → b ∉ [s.heap.objs.size] := fun b o e hm => absurd (Heap.lt_size e) (by rw [List.mem_singleton.mp hm]; exact Nat.lt_irrefl _)
  refine ⟨s.heap.objs.size, _, _, AS.cps.size, _, _, rfl, W, by rw [sizeLine_eq]; omega, ⟨_, Heap.get?_push_size _ rfl, rfl, rfl⟩, ?_, ⟨?_, ?_⟩, ?_⟩
  · intro b hb
    show b < (s.heap.push _).objs.size
    rw [Heap.size_push, List.mem_singleton.mp hb]
    exact Nat.lt_succ_self _
  · intro C i v s₃ m₃ E' _ hP hN hmx hk _
    obtain ⟨ch, u, _, rfl⟩ := hP
    have hco : s₃.heap.get? c = some o := hk _ _ (nI _ _ (N _ hm).1) (Heap.get?_push_of_some _ (N _ hm).1)
    rw [List.forIn_cons]
    refine wpAny_bind ?_
    rw [if_pos rfl]
    refine wpAny_bind (wpAny_isTrue_Compare1 ?_ (by rfl))
    refine wpAny_Name (wpAny_loadName_local (hkc C) (hxc C) hN hmx ?_) dx
    refine wpAny_Name (wpAny_loadName_cell (hkc C) (hkb C) hc ⟨o, hco, hd⟩ ?_) db
    refine notIn_str ?_
    refine wpAny_truthy_bool ?_
    refine wpAny_pure ?_
    dsimp only
    rw [List.forIn_nil]
    exact wpAny_pure ⟨rfl, ⟨s₃.heap, _, rfl, fun _ _ e => e⟩⟩
  · intro C i v s₃ m₃ E' _ hP _ hN hmx hk _
    exact wpAny_Name (wpAny_loadName_local (hkc C) (hxc C) hN hmx ⟨rfl, ⟨s₃.heap, s₃.toks, rfl, fun _ _ e => e⟩⟩) dx
  · intro D h' tk ys vs hD hlD hplD hlenV hPv hF hk
    have hstay : ∀ b o, s.heap.get? b = some o → h'.get? b = some o := fun b o e => hk b o (nI b o e) (Heap.get?_push_of_some _ e)
    have hDn : ∀ b o, s.heap.get? b = some o → b ≠ D := by
      rintro b o e rfl
      have : (s.heap.push { cls := .type "str_ascii_iterator", data := .fields #[.str AS ta, .int 0 0] }).get? b = some o := Heap.get?_push_of_some _ e
      rw [this] at hD
      cases hD
    obtain ⟨n', hDo⟩ := hplD
    obtain ⟨l, hl, hl2⟩ := sel_key AS.cps.toList vs ys.toList (by rw [hlenV]; exact Array.length_toList.symm) (fun j v hv => by
      obtain ⟨c, u, h1, h2⟩ := hPv j v hv
      exact ⟨c, u, by rw [Array.getElem?_toList]; exact h1, h2⟩) hF
    have hys : ys = (strValues l).toArray := by rw [← hl]
    subst hys
    have F' : Fr h₀ L h' m := ⟨F.ns.at' fun o e => hstay _ o e, fun b o e => hstay b o (F.keep b o e), F.above⟩
    refine h D l h' tk n' hl2 F' ?_
    intro p hp
    rcases List.mem_cons.mp hp with rfl | hp
    · refine ⟨hDo, ?_, ?_⟩
      · obtain ⟨o, _, _, ho, _⟩ := F.ns
        exact fun e => hDn L o ho e.symm
      · cases e : h₀.get? D with
        | none => rfl
        | some o => exact absurd rfl (hDn D o (F.keep D o e))
    · exact ⟨hstay _ _ (N p hp).1, (N p hp).2⟩
end
end Mine
namespace Mine
open PySem PySem.W PyProof.Rows PySem.Spec
abbrev Rows5 := List (Addr × Addr × Str × Tok)
abbrev tup2 (a b : Value) : Obj := { cls := .type "tuple", data := .seq #[a, b] }
def rrefs (rows : Rows5) : List Value := rows.map fun q => .ref q.1
section
variable {prog : Program} {w : World} {A : Around} {E : Value → Shared → Prop} {s : Shared} {env : Env} {h₀ : Heap} {body : List Stmt} {Q : Flow → Shared → Prop}
def RwEnd (h₀ : Heap) (L : Addr) (vd : Str) (stored : List Str) (m₀ : Str → Option Value) (all : List (Addr × Obj)) (s s' : Shared) : Prop :=
  ∃ h' tk' m', s' = { s with heap := h', toks := tk' } ∧ Fr h₀ L h' m' ∧ (∀ z, z ≠ vd → stored.contains z = false → m' z = m₀ z) ∧ News h₀ L h' all
def RwPost (h₀ : Heap) (L : Addr) (vd : Str) (stored : List Str) (m₀ : Str → Option Value) (all : List (Addr × Obj)) (s : Shared) (Q : Flow → Shared → Prop) (f : Flow) (s' : Shared) : Prop :=
  match f with
  | .ret v => Q (.ret v) s'
  | .brk => Q .next s'
  | _ => RwEnd h₀ L vd stored m₀ all s s'
theorem rwEnd_ {L : Addr} {vd : Str} {stored : List Str} {m₀ m' : Str → Option Value} {all : List (Addr × Obj)} {h' : Heap} {tk' : Nat} (F : Fr h₀ L h' m') (N : News h₀ L h' all) (hm : ∀ z, z ≠ vd → stored.contains z = false → m' z = m₀ z) :
    RwPost h₀ L vd stored m₀ all s Q .next { s with heap := h', toks := tk' } := ⟨h', tk', m', rfl, F, hm, N⟩
theorem forLoop_rows {R : Result → Shared → Prop} {vd vb : Str} {p1 p2 pos : Pos} {k : Nat} {D I c : Addr} {rows : Rows5} {n : Nat} {m₀ : Str → Option Value} {news : List (Addr × Obj)} {oc : Obj} {v0 : Option Value} (stored : List Str)
    (hxd : env.kindOf vd = some .local) (hp : (env.scope.kind == .class || (env.scope.kind == .module && env.locals != env.globals)) = false) (hk : env.scope.kind = .function) (hxb : env.kindOf vb = some .cell) (hcl : env.cells.lookup vb = some c)
    (hh : A.handled = none) (hF : Fr h₀ env.locals s.heap m₀) (N : News h₀ env.locals s.heap ((c, oc) :: news)) (hd : oc.data = .cell v0) (hne : ∀ p ∈ news, p.1 ≠ c)
    (hl : (D, listOf (rrefs rows).toArray n) ∈ news) (hO : ∀ q ∈ rows, (q.1, tup2 (.ref q.2.1) (.str q.2.2.1 q.2.2.2)) ∈ news)
    (hI : s.heap.IsListIter I D 0) (hI1 : I ≠ env.locals) (hI2 : h₀.get? I = none) (hI3 : ∀ p ∈ (c, oc) :: news, p.1 ≠ I)
    (turn : ∀ (i : Nat) (q : Addr × Addr × Str × Tok) (oc : Obj) h tk (u : Str → Option Value) tl, rows[i]? = some q → oc.data = .cell (some (.str q.2.2.1 q.2.2.2)) → (∀ p ∈ news, p ∈ tl) → Fr h₀ env.locals h (fun y => if y = vd then some (.ref q.2.1) else if stored.contains y then u y else m₀ y) →
      News h₀ env.locals h ((c, oc) :: tl) →
      wpAny (model prog w) A (execs body env) (RwPost h₀ env.locals vd stored m₀ ((c, oc) :: tl) { s with heap := h, toks := tk } (fun f s' => R (.ok f) s')) (notedBy (model prog w) A env fun e s' => R (.error e) s') { s with heap := h, toks := tk })
    (done : ∀ oc h tk (u : Str → Option Value), Fr h₀ env.locals h (fun y => if y = vd then u y else if stored.contains y then u y else m₀ y) → News h₀ env.locals h ((c, oc) :: news) → R (.ok .next) { s with heap := h, toks := tk }) :
    codeAny (model prog w) A (.forLoop (.Tuple [.Name vd p1, .Name vb p2] k pos) (.ref I) body [] env) R s := by
  have nDI : D ≠ I := hI3 _ (.tail _ hl)
  have W := Walks.list (prog := prog) (w := w) hh I D nDI (rrefs rows).toArray
  have hlen : (rrefs rows).toArray.size = rows.length := by simp [rrefs]
  rw [hlen] at W
  have cI : c ≠ I := hI3 _ (.head _)
  refine codeAny_forLoop_any
    (fun k s' => ∃ h' tk m' i oc v, s' = { s with heap := h', toks := tk } ∧ h'.IsListIter I D i ∧ Fr h₀ env.locals h' m' ∧ (∀ z, z ≠ vd → stored.contains z = false → m' z = m₀ z) ∧ News h₀ env.locals h' ((c, oc) :: news) ∧ oc.data = .cell v ∧ i ≤ rows.length ∧ k = rows.length + 1 - i) ?_ (rows.length + 1)
    ⟨s.heap, s.toks, m₀, 0, oc, v0, rfl, hI, hF, fun _ _ _ => rfl, N, hd, Nat.zero_le _, rfl⟩
  rintro k s' ⟨h', tk, m', i, oc, v0, rfl, hit, F', hm, N', hd, hi, rfl⟩
  have hls : h'.IsList D (rrefs rows).toArray := ⟨_, (N' _ (.tail _ hl)).1, rfl, n, rfl⟩
  have offI : ∀ p ∈ (c, oc) :: news, p.1 ≠ I := by
    intro p hp
    rcases List.mem_cons.mp hp with rfl | hp
    · exact cI
    · exact hI3 p (.tail _ hp)
  have next : ∀ h₁ : Heap, (∀ b o, b ∉ [I] → h'.get? b = some o → h₁.get? b = some o) → Fr h₀ env.locals h₁ m' ∧ News h₀ env.locals h₁ ((c, oc) :: news) := fun h₁ hk₁ =>
    ⟨⟨F'.ns.at' fun o e => hk₁ _ o (fun hm => hI1 (List.mem_singleton.mp hm).symm) e, fun b o e => hk₁ b o (fun hm => by rw [List.mem_singleton.mp hm, hI2] at e; cases e) (F'.keep b o e), F'.above⟩,
     fun p hp => ⟨hk₁ _ _ (fun hm => offI p hp (List.mem_singleton.mp hm)) (N' p hp).1, (N' p hp).2⟩⟩
  by_cases hlt : i < rows.length
  · refine W.item i _ _ _ hlt ⟨hit, hls⟩ fun v h₁ tk₁ hPv hst₁ hk₁ => ?_
    obtain ⟨F₁, N₁⟩ := next h₁ hk₁
    obtain ⟨q, hq, rfl⟩ : ∃ q, rows[i]? = some q ∧ v = .ref q.1 := by
      unfold rrefs at hPv
      rw [List.getElem?_toArray, List.getElem?_map] at hPv
      cases hi : rows[i]? with
      | none => rw [hi] at hPv; cases hPv
      | some y => rw [hi] at hPv; exact ⟨y, rfl, (Option.some.inj hPv).symm⟩
    refine wpAny_letOwnedTupleGo_listiter hst₁.1 ?_
    obtain ⟨oI, hoI, hoI'⟩ := hst₁.1
    have hqo := hO q (List.mem_of_getElem? hq)
    have N₂ : News h₀ env.locals h₁ ((I, oI) :: (c, oc) :: news) := by
      intro p hp
      rcases List.mem_cons.mp hp with rfl | hp
      · exact ⟨hoI, hI1, hI2⟩
      · exact N₁ p hp
    have ht : IsTup h₁ q.1 #[.ref q.2.1, .str q.2.2.1 q.2.2.2] := News.isTup N₁ (.tail _ hqo)
    refine unpackN_ F₁ N₂ ht hh rfl rfl fun h₂ F₂ N₂ => ?_
    refine assignInOrder_cons ?_
    refine wpAny_assign_Name (wpAny_storeName_local hxd F₂.ns (fun h₃ hn₃ hs₃ => ?_) hp)
    have F₃ := F₂.set hn₃ hs₃
    have N₃ := N₂.set hs₃
    refine assignInOrder_cons ?_
    have hc3 := N₃ (c, oc) (.tail _ (.head _))
    refine wpAny_assign_Name (wpAny_storeName_cell hk hxb hcl ⟨oc, hc3.1, hd⟩ fun h₄ hv₄ hs₄ => ?_)
    obtain ⟨oc', hoc', hd'⟩ := hv₄
    refine assignInOrder_nil ?_
    have F₄ : Fr h₀ env.locals h₄ (fun y => if y = vd then some (.ref q.2.1) else m' y) := ⟨F₃.ns.sameBut hs₄ (Ne.symm hc3.2.1), fun b ob e => (hs₄.2 b (fun q => by rw [q, hc3.2.2] at e; cases e)).trans (F₃.keep b ob e), F₃.above⟩
    have N₄ : News h₀ env.locals h₄ ((c, oc') :: ((I, oI) :: news)) := by
      intro p hp
      rcases List.mem_cons.mp hp with rfl | hp
      · exact ⟨hoc', hc3.2⟩
      rcases List.mem_cons.mp hp with rfl | hp
      · have z := N₃ (I, oI) (.head _)
        exact ⟨(hs₄.2 I (Ne.symm cI)).trans z.1, z.2⟩
      · have z := N₃ p (.tail _ (.tail _ hp))
        exact ⟨(hs₄.2 p.1 (hne p hp)).trans z.1, z.2⟩
    have e : (fun y => if y = vd then some (Value.ref q.2.1) else m' y) = fun y => if y = vd then some (.ref q.2.1) else if stored.contains y then m' y else m₀ y := by
      funext z
      by_cases h1 : z = vd
      · simp [h1]
      · simp only [if_neg h1]
        cases h2 : stored.contains z with
        | true => rw [if_pos rfl]
        | false => rw [if_neg Bool.false_ne_true]; exact hm z h1 h2
    rw [e] at F₄
    refine wpAny_mono (turn i q oc' h₄ _ m' ((I, oI) :: news) hq hd' (fun _ h => .tail _ h) F₄ N₄) (fun fl s₃ h₃ => ?_) fun _ _ e => e
    have fin : ∀ tkx, RwEnd h₀ env.locals vd stored m₀ ((c, oc') :: ((I, oI) :: news)) { s with heap := h₄, toks := tkx } s₃ → ∃ m, m < rows.length + 1 - i ∧ ∃ h' tk m' i oc v, s₃ = { s with heap := h', toks := tk } ∧ h'.IsListIter I D i ∧ Fr h₀ env.locals h' m' ∧ (∀ z, z ≠ vd → stored.contains z = false → m' z = m₀ z) ∧ News h₀ env.locals h' ((c, oc) :: news) ∧ oc.data = .cell v ∧ i ≤ rows.length ∧ m = rows.length + 1 - i := by
      rintro tkx ⟨h'', tk'', m'', e', F'', hm'', N''⟩
      have hI'' := N'' (I, oI) (by simp)
      refine ⟨rows.length + 1 - (i + 1), by omega, h'', tk'', m'', i + 1, oc', _, e', ⟨oI, hI''.1, hoI'⟩, F'', hm'', cb_drop N'' (fun p h => ?_), hd', hlt, rfl⟩
      rcases List.mem_cons.mp h with h | h
      · exact h ▸ .head _
      · exact .tail _ (.tail _ h)
    cases fl with
    | ret v => exact h₃
    | brk => exact h₃
    | cont => exact fin _ h₃
    | next => exact fin _ h₃
  · have hin : i = rows.length := by omega
    subst hin
    refine W.done _ _ _ ⟨hit, hls⟩ fun h₁ tk₁ hk₁ => wpAny_execs_nil ?_
    obtain ⟨F₁, N₁⟩ := next h₁ hk₁
    have e : m' = fun y => if y = vd then m' y else if stored.contains y then m' y else m₀ y := by
      funext z
      by_cases h1 : z = vd
      · simp [h1]
      · simp only [if_neg h1]
        cases h2 : stored.contains z with
        | true => rw [if_pos rfl]
        | false => rw [if_neg Bool.false_ne_true]; exact hm z h1 h2
    rw [e] at F₁
    exact done oc h₁ tk₁ m' F₁ N₁
theorem loop_rows {vd vb : Str} {p1 p2 pos : Pos} {k : Nat} {D c : Addr} {rows : Rows5} {n : Nat} {m₀ : Str → Option Value} {news : List (Addr × Obj)} {oc : Obj} {v0 : Option Value} (stored : List Str)
    (hxd : env.kindOf vd = some .local) (hp : (env.scope.kind == .class || (env.scope.kind == .module && env.locals != env.globals)) = false) (hk : env.scope.kind = .function) (hxb : env.kindOf vb = some .cell) (hcl : env.cells.lookup vb = some c)
    (hh : A.handled = none) (hF : Fr h₀ env.locals s.heap m₀) (N : News h₀ env.locals s.heap ((c, oc) :: news)) (hd : oc.data = .cell v0) (hne : ∀ p ∈ news, p.1 ≠ c)
    (hl : (D, listOf (rrefs rows).toArray n) ∈ news) (hO : ∀ q ∈ rows, (q.1, tup2 (.ref q.2.1) (.str q.2.2.1 q.2.2.2)) ∈ news) (hE : PassesOwn (model prog w) A env E)
    (turn : ∀ (i : Nat) (q : Addr × Addr × Str × Tok) (oc : Obj) h tk (u : Str → Option Value) tl, rows[i]? = some q → oc.data = .cell (some (.str q.2.2.1 q.2.2.2)) → (∀ p ∈ news, p ∈ tl) → Fr h₀ env.locals h (fun y => if y = vd then some (.ref q.2.1) else if stored.contains y then u y else m₀ y) →
      News h₀ env.locals h ((c, oc) :: tl) →
      wpAny (model prog w) A (execs body env) (RwPost h₀ env.locals vd stored m₀ ((c, oc) :: tl) { s with heap := h, toks := tk } Q) E { s with heap := h, toks := tk })
    (done : ∀ oc h tk (u : Str → Option Value), Fr h₀ env.locals h (fun y => if y = vd then u y else if stored.contains y then u y else m₀ y) → News h₀ env.locals h ((c, oc) :: news) → Q .next { s with heap := h, toks := tk }) :
    wpAny (model prog w) A (pyIter (.ref D)) (fun it s₂ => codeAny (model prog w) A (.forLoop (.Tuple [.Name vd p1, .Name vb p2] k pos) it body [] env) (fun r s' => match r with | .ok f => Q f s' | .error e => cameBackBy (model prog w) A env E e s') s₂) E s := by
  have hls : s.heap.IsList D (rrefs rows).toArray := ⟨_, (N _ (.tail _ hl)).1, rfl, n, rfl⟩
  refine wpAny_pyIter_list hls ?_
  have lt : ∀ p ∈ (c, oc) :: news, p.1 ≠ s.heap.objs.size := fun p hp => Nat.ne_of_lt (Heap.lt_size (N p hp).1)
  refine forLoop_rows (s := { s with heap := s.heap.push { cls := .type "list_iterator", data := .fields #[.ref D, .int 0 0] } }) stored hxd hp hk hxb hcl hh (hF.push _) (fun p hp => ⟨Heap.get?_push_of_some _ (N p hp).1, (N p hp).2⟩) hd hne hl hO
    ⟨_, Heap.get?_push_size _ rfl, rfl, rfl⟩ (Nat.ne_of_gt hF.ns.lt) (next_is_new hF) lt ?_ ?_
  · intro i q oc h tk u tl a1 a2 a3 a4 a5
    exact wpAny_passesOwn hE (turn i q oc h tk u tl a1 a2 a3 a4 a5)
  · intro oc h tk u a1 a2
    exact done oc h tk u a1 a2
end
end Mine
namespace Mine
open PySem PySem.W PyProof.Rows PySem.Spec
def AllSeq (l : List (Addr × Obj)) : Prop := ∀ p ∈ l, ∃ xs n, p.2.data = .seq xs n
theorem seq_cons {a : Addr} {o : Obj} {l : List (Addr × Obj)} (h : ∃ xs n, o.data = .seq xs n) (r : AllSeq l) : AllSeq ((a, o) :: l) := fun p hp => by
  rcases List.mem_cons.mp hp with rfl | hp
  · exact h
  · exact r p hp
theorem seq_objs {its : Its} : AllSeq (objs its) := fun p hp => by
  obtain ⟨q, _, rfl⟩ := List.mem_map.mp hp
  exact ⟨_, _, rfl⟩
theorem take_last {h₀ h : Heap} {L c : Addr} {pre : List (Addr × Obj)} {w : Obj} {v : Option Value} (N : News h₀ L h (pre ++ [(c, w)])) (hw : w.data = .cell v) (hs : AllSeq pre) : News h₀ L h ((c, w) :: pre) ∧ ∀ p ∈ pre, p.1 ≠ c := by
  have Nc := N (c, w) (List.mem_append.mpr (.inr (.head _)))
  refine ⟨fun p hp => ?_, fun p hp e => ?_⟩
  · rcases List.mem_cons.mp hp with rfl | hp
    · exact Nc
    · exact N p (List.mem_append.mpr (.inl hp))
  · have Np := (N p (List.mem_append.mpr (.inl hp))).1
    rw [e, Nc.1] at Np
    obtain ⟨xs, n, hx⟩ := hs p hp
    rw [← Option.some.inj Np, hw] at hx
    cases hx
theorem setup_rows {h₀ h : Heap} {L D l D1 D2 l' D3 D4 D5 D6 T c f1 f2 f3 f4 f5 : Addr} {its : Its} {n n1 n2 : Nat} {w : Obj} {v : Option Value} {b1 b2 b3 b4 b5 : Str} {t1 t2 t3 t4 t5 : Tok} {a1 a2 : Array Value} {x y : Value}
    (N : News h₀ L h ((D, listOf #[.ref D5, .ref D4, .ref D3, .ref D2, .ref D1] 0) :: (l, listOf a1 n1) :: (D1, tup2 (.ref f1) (.str b1 t1)) :: (D2, tup2 (.ref f2) (.str b2 t2)) :: (l', listOf a2 n2) :: (D3, tup2 (.ref f3) (.str b3 t3)) :: (D4, tup2 (.ref f4) (.str b4 t4)) :: (D5, tup2 (.ref f5) (.str b5 t5)) :: (D6, tup2 x y) :: (T, listOf (refs its).toArray n) :: (objs its ++ [(c, w)])))
    (hw : w.data = .cell v) : ∃ (news : List (Addr × Obj)) (rows : Rows5), rows = [(D5, f5, b5, t5), (D4, f4, b4, t4), (D3, f3, b3, t3), (D2, f2, b2, t2), (D1, f1, b1, t1)] ∧ News h₀ L h ((c, w) :: news) ∧ (∀ p ∈ news, p.1 ≠ c) ∧ (D, listOf (rrefs rows).toArray 0) ∈ news ∧
      (∀ q ∈ rows, (q.1, tup2 (.ref q.2.1) (.str q.2.2.1 q.2.2.2)) ∈ news) ∧ (T, listOf (refs its).toArray n) ∈ news ∧ (∀ p ∈ objs its, p ∈ news) := by
  have Z := take_last (pre := (D, listOf #[.ref D5, .ref D4, .ref D3, .ref D2, .ref D1] 0) :: (l, listOf a1 n1) :: (D1, tup2 (.ref f1) (.str b1 t1)) :: (D2, tup2 (.ref f2) (.str b2 t2)) :: (l', listOf a2 n2) :: (D3, tup2 (.ref f3) (.str b3 t3)) :: (D4, tup2 (.ref f4) (.str b4 t4)) :: (D5, tup2 (.ref f5) (.str b5 t5)) :: (D6, tup2 x y) :: (T, listOf (refs its).toArray n) :: objs its) N hw
    (seq_cons ⟨_, _, rfl⟩ (seq_cons ⟨_, _, rfl⟩ (seq_cons ⟨_, _, rfl⟩ (seq_cons ⟨_, _, rfl⟩ (seq_cons ⟨_, _, rfl⟩ (seq_cons ⟨_, _, rfl⟩ (seq_cons ⟨_, _, rfl⟩ (seq_cons ⟨_, _, rfl⟩ (seq_cons ⟨_, _, rfl⟩ (seq_cons ⟨_, _, rfl⟩ seq_objs))))))))))
  refine ⟨_, [(D5, f5, b5, t5), (D4, f4, b4, t4), (D3, f3, b3, t3), (D2, f2, b2, t2), (D1, f1, b1, t1)], rfl, Z.1, Z.2, .head _, ?_, ?_, ?_⟩
  · intro q hq
    simp only [List.mem_cons, List.not_mem_nil, or_false] at hq
    rcases hq with rfl | rfl | rfl | rfl | rfl <;> simp
  · simp
  · intro p hp
    simp [hp]
theorem mem_t1 {l tl : List (Addr × Obj)} {a : Addr × Obj} (h : ∀ p ∈ l, p ∈ tl) : ∀ p ∈ l, p ∈ a :: tl := fun p hp => .tail _ (h p hp)
theorem mem_t2 {l tl : List (Addr × Obj)} {a b : Addr × Obj} (h : ∀ p ∈ l, p ∈ tl) : ∀ p ∈ l, p ∈ b :: a :: tl := fun p hp => .tail _ (.tail _ (h p hp))
theorem mem_t3 {l tl : List (Addr × Obj)} {a b c : Addr × Obj} (h : ∀ p ∈ l, p ∈ tl) : ∀ p ∈ l, p ∈ c :: b :: a :: tl := fun p hp => .tail _ (.tail _ (.tail _ (h p hp)))
theorem put_second {h₀ h : Heap} {L : Addr} {tl : List (Addr × Obj)} {a b : Addr × Obj} (N : News h₀ L h (a :: tl)) (hb : b ∈ tl) : News h₀ L h (a :: b :: tl) := cb_drop N fun p hp => by
  rcases List.mem_cons.mp hp with rfl | hp
  · exact .head _
  rcases List.mem_cons.mp hp with rfl | hp
  · exact .tail _ hb
  · exact .tail _ hp
theorem drop_second {h₀ h : Heap} {L : Addr} {tl : List (Addr × Obj)} {a b : Addr × Obj} (N : News h₀ L h (a :: b :: tl)) : News h₀ L h (a :: tl) := cb_drop N fun p hp => by
  rcases List.mem_cons.mp hp with rfl | hp
  · exact .head _
  · exact .tail _ (.tail _ hp)
theorem put_first {h₀ h : Heap} {L : Addr} {tl : List (Addr × Obj)} {a b : Addr × Obj} (N : News h₀ L h (a :: tl)) (hb : b ∈ tl) : News h₀ L h (b :: a :: tl) := cb_drop N fun p hp => by
  rcases List.mem_cons.mp hp with rfl | hp
  · exact .tail _ hb
  · exact hp
end Mine
namespace Mine
open PySem PySem.W PyProof.Rows
abbrev toB (l : List Nat) : List UInt8 := l.map fun c => c.toUInt8
def tx (ps : List Piece) : List Nat := (ps.map fun p => p.1.cps.toList).flatten
def dl (rd : Str) (g st : Bool) (ps : List Piece) : List Nat := (ps.map fun p => (due1 rd g st p).cps.toList).flatten
inductive Good (mp : Nat) (rd : Str) : Piece → Prop
  | plain (c : Nat) : c < 128 → c ≠ 37 → Good mp rd (⟨#[c]⟩, none, false)
  | lone (u : List Nat) : (∀ c ∈ u, c < 128 ∧ c ≠ 37) → (∀ p0 : List UInt8, (u = [] → p0 = []) → has mp ((toB u ++ p0).take 2).toArray = false ∧ has 52 ((toB u ++ p0).take 2).toArray = false) → Good mp rd (⟨(37 :: u).toArray⟩, none, true)
  | hex (a b z : Nat) : a < 128 → b < 128 → z < 128 → a ≠ 37 → b ≠ 37 → hexPair #[a.toUInt8, b.toUInt8] = some z → has mp #[a.toUInt8, b.toUInt8] = inD rd z → has 52 #[a.toUInt8, b.toUInt8] = true → Good mp rd (⟨#[37, a, b]⟩, some ⟨#[z]⟩, false)
def Fol : List Piece → Prop
  | [] => True
  | p :: r => (p.1.cps.toList = [37] → ∀ q r', r = q :: r' → q.1.cps.toList.head? = some 37) ∧ Fol r
theorem u8_ne {c : Nat} (h : c < 128) (h' : c ≠ 37) : c.toUInt8 ≠ 37 := by
  intro e
  have := congrArg UInt8.toNat e
  rw [show c.toUInt8.toNat = c % 256 from rfl, show (37 : UInt8).toNat = 37 from rfl] at this
  omega
theorem split_one {l : List UInt8} {p0 : List UInt8} {items : List (List UInt8)} (hs : BR.splitPct l = p0 :: items) {c : UInt8} (hc : c ≠ 37) : BR.splitPct (c :: l) = (c :: p0) :: items := by
  show (if c = 37 then [] :: BR.splitPct l else match BR.splitPct l with | [] => [[c]] | p :: ps => (c :: p) :: ps) = _
  rw [if_neg hc, hs]
theorem split_app {l : List UInt8} {p0 : List UInt8} {items : List (List UInt8)} (hs : BR.splitPct l = p0 :: items) : ∀ u : List Nat, (∀ c ∈ u, c < 128 ∧ c ≠ 37) → BR.splitPct (toB u ++ l) = (toB u ++ p0) :: items
  | [], _ => hs
  | c :: u, h => split_one (split_app hs u fun d hd => h d (.tail _ hd)) (u8_ne (h c (.head _)).1 (h c (.head _)).2)
theorem split_pct0 {l : List UInt8} {p0 : List UInt8} {items : List (List UInt8)} (hs : BR.splitPct l = p0 :: items) : BR.splitPct (37 :: l) = [] :: p0 :: items := by
  show (if (37 : UInt8) = 37 then [] :: BR.splitPct l else _) = _
  rw [if_pos rfl, hs]
theorem split_single : ∀ {l p : List UInt8}, BR.splitPct l = [p] → p = l
  | [], p, h => by
    have : [[]] = [p] := h
    injection this with h
    exact h.symm
  | c :: l, p, h => by
    obtain ⟨q, qs, hq⟩ : ∃ q qs, BR.splitPct l = q :: qs := by
      cases e : BR.splitPct l with
      | nil => exact absurd e (BR.splitPct_ne l)
      | cons q qs => exact ⟨q, qs, rfl⟩
    by_cases hc : c = 37
    · subst hc
      rw [split_pct0 hq] at h
      injection h with _ h
      cases h
    · rw [split_one hq hc] at h
      injection h with h1 h2
      subst h2
      rw [← h1, split_single hq]
theorem toUpper_up {a : Nat} (h : a < 128) : Builtin.Bytes.toUpper a.toUInt8 = (up a).toUInt8 := by
  have h' : ∀ a, a < 128 → Builtin.Bytes.toUpper a.toUInt8 = (up a).toUInt8 := by decide +kernel
  exact h' a h
section
variable {mp : Nat} {rd : Str} {g st : Bool}
theorem due_lone {u : List Nat} : (due1 rd g st (⟨(37 :: u).toArray⟩, none, true)).cps.toList = (if st then [37, 50, 53] else [37]) ++ u := by
  unfold due1
  dsimp only
  cases st with
  | false => rfl
  | true =>
    show ((Str.ofString "%25") ++ tail1 ⟨(37 :: u).toArray⟩).cps.toList = _
    rw [PySem.Str.cps_append, Array.toList_append]
    rfl
theorem due_hex {a b z : Nat} : (due1 rd g st (⟨#[37, a, b]⟩, some ⟨#[z]⟩, false)).cps.toList = if inD rd z = true then [z] else 37 :: (if g then [up a, up b] else [a, b]) := by
  unfold due1
  show (if isIn ⟨#[z]⟩ rd = true then (⟨#[z]⟩ : Str) else _).cps.toList = _
  show (if inD rd z = true then (⟨#[z]⟩ : Str) else _).cps.toList = _
  split
  · rfl
  · rw [PySem.Str.cps_append, Array.toList_append]
    cases g
    · rfl
    · simp [upS, tail1]
      rfl
theorem io_lone2 {p : List UInt8} (h : has mp (p.take 2).toArray = false) (h5 : has 52 (p.take 2).toArray = false) : itemOut mp g st p = toB (if st then [37, 50, 53] else [37]) ++ p := by
  cases st with
  | false => exact (io_lone h h5 rfl).symm
  | true => exact (io_stray h h5 rfl).symm
theorem io_hex2 {a b z : Nat} {p0 : List UInt8} (ha : a < 128) (hb : b < 128) (hp : hexPair #[a.toUInt8, b.toUInt8] = some z) (h : has mp #[a.toUInt8, b.toUInt8] = inD rd z) (h5 : has 52 #[a.toUInt8, b.toUInt8] = true) :
    itemOut mp g st (a.toUInt8 :: b.toUInt8 :: p0) = toB (if inD rd z = true then [z] else 37 :: (if g then [up a, up b] else [a, b])) ++ p0 := by
  have ht : ((a.toUInt8 :: b.toUInt8 :: p0).take 2).toArray = #[a.toUInt8, b.toUInt8] := rfl
  cases hd : inD rd z with
  | true =>
    rw [hd] at h
    rw [← io_read (by rw [ht]; exact h) (by rw [ht]; exact hp)]
    rfl
  | false =>
    rw [hd] at h
    cases g with
    | false =>
      rw [← io_hex (by rw [ht]; exact h) (by rw [ht]; exact h5) rfl]
      rfl
    | true =>
      rw [← io_upper (by rw [ht]; exact h) (by rw [ht]; exact h5) rfl]
      show [37] ++ ([Builtin.Bytes.toUpper a.toUInt8, Builtin.Bytes.toUpper b.toUInt8] ++ p0) = _
      rw [toUpper_up ha, toUpper_up hb]
      rfl
theorem split_main : ∀ ps : List Piece, (∀ p ∈ ps, Good mp rd p) → Fol ps → ∃ p0 items, BR.splitPct (toB (tx ps)) = p0 :: items ∧ p0 ++ (items.map (itemOut mp g st)).flatten = toB (dl rd g st ps) ∧ (ps = [] → p0 = []) ∧ ((tx ps).head? = some 37 → p0 = [])
  | [], _, _ => ⟨[], [], rfl, rfl, fun _ => rfl, fun _ => rfl⟩
  | p :: r, hg, hf => by
    obtain ⟨p0, items, hs, ho, hn, hh⟩ := split_main r (fun q hq => hg q (.tail _ hq)) hf.2
    have hd : toB (dl rd g st (p :: r)) = toB (due1 rd g st p).cps.toList ++ toB (dl rd g st r) := by simp [dl]
    have ht : toB (tx (p :: r)) = toB p.1.cps.toList ++ toB (tx r) := by simp [tx]
    rw [hd, ht, ← ho]
    have hp := hg p (.head _)
    cases hp with
    | plain c h1 h2 =>
      refine ⟨c.toUInt8 :: p0, items, split_one hs (u8_ne h1 h2), rfl, (fun h => nomatch h), fun h => ?_⟩
      have : some c = some 37 := h
      exact absurd (Option.some.inj this) h2
    | lone u hu hx =>
      refine ⟨[], (toB u ++ p0) :: items, ?_, ?_, (fun h => nomatch h), fun _ => rfl⟩
      · show BR.splitPct (37 :: (toB u ++ toB (tx r))) = _
        exact split_pct0 (split_app hs u hu)
      · have h0 : u = [] → p0 = [] := by
          intro e
          subst e
          cases r with
          | nil => exact hn rfl
          | cons q r' =>
            have hq := hf.1 rfl q r' rfl
            refine hh ?_
            have : (tx (q :: r')) = q.1.cps.toList ++ tx r' := by simp [tx]
            rw [this, List.head?_append, hq]
            rfl
        obtain ⟨x1, x2⟩ := hx p0 h0
        rw [due_lone]
        show (itemOut mp g st (toB u ++ p0)) ++ (items.map (itemOut mp g st)).flatten = _
        rw [io_lone2 x1 x2]
        simp [toB]
    | hex a b z ha hb hz na nb hp hm h5 =>
      refine ⟨[], (a.toUInt8 :: b.toUInt8 :: p0) :: items, ?_, ?_, (fun h => nomatch h), fun _ => rfl⟩
      · show BR.splitPct (37 :: a.toUInt8 :: b.toUInt8 :: toB (tx r)) = _
        exact split_pct0 (split_one (split_one hs (u8_ne hb nb)) (u8_ne ha na))
      · rw [due_hex]
        show (itemOut mp g st (a.toUInt8 :: b.toUInt8 :: p0)) ++ (items.map (itemOut mp g st)).flatten = _
        rw [io_hex2 ha hb hp hm h5]
        simp [toB]
end
def chk (mp : Nat) (rd : Str) (a b z : Nat) : Bool := decide (a < 128) && (decide (b < 128) && (decide (z < 128) && (decide (a ≠ 37) && (decide (b ≠ 37) && (decide (hexPair #[a.toUInt8, b.toUInt8] = some z) && ((has mp #[a.toUInt8, b.toUInt8] == inD rd z) && has 52 #[a.toUInt8, b.toUInt8]))))))
theorem good_chk {mp : Nat} {rd : Str} {a b z : Nat} (h : chk mp rd a b z = true) : Good mp rd (⟨#[37, a, b]⟩, some ⟨#[z]⟩, false) := by
  unfold chk at h
  simp only [Bool.and_eq_true, decide_eq_true_eq, beq_iff_eq] at h
  obtain ⟨h1, h2, h3, h4, h5, h6, h7, h8⟩ := h
  exact .hex a b z h1 h2 h3 h4 h5 h6 h7 h8
def chkAll (mp : Nat) (rd : Str) : Bool := ((List.range 19).all fun r => chk mp rd (hexd (signs.cps.getD r 0 / 16)) (hexd (signs.cps.getD r 0 % 16)) (signs.cps.getD r 0) && chk mp rd (up (hexd (signs.cps.getD r 0 / 16))) (up (hexd (signs.cps.getD r 0 % 16))) (signs.cps.getD r 0)) && chk mp rd 52 49 65
def rd70 : Str := Str.ofString "aZA5-~"
def rd55 : Str := Str.ofString "aZA5-~ &=+!$"
def rd58 : Str := Str.ofString "aZA5-~ @:&=+!$"
def rd61 : Str := Str.ofString "aZA5-~ /?@:+!$"
def rd64 : Str := Str.ofString "aZA5-~ /?@:=+!$"
def rd67 : Str := Str.ofString "aZA5-~ /?@:&=+!$"
def rd52 : Str := Str.ofString "aZA5-~ /?#[]@:&=+!$%"
theorem ok70 : chkAll 70 rd70 = true := by decide +kernel
theorem ok55 : chkAll 55 rd55 = true := by decide +kernel
theorem ok58 : chkAll 58 rd58 = true := by decide +kernel
theorem ok61 : chkAll 61 rd61 = true := by decide +kernel
theorem ok64 : chkAll 64 rd64 = true := by decide +kernel
theorem ok67 : chkAll 67 rd67 = true := by decide +kernel
theorem ok52' : chkAll 52 rd52 = true := by decide +kernel
section
variable {mp : Nat} {rd : Str}
theorem no_has {b : List UInt8} (h : ∀ x y : UInt8, b = [x, y] → x.toNat ∈ BR.hexCodes → y.toNat ∈ BR.hexCodes → False) : has mp b.toArray = false := by
  cases e : has mp b.toArray with
  | false => rfl
  | true =>
    obtain ⟨x, y, hb, hx, hy, _⟩ := hex_of_has e
    have : b = [x, y] := congrArg Array.toList hb
    exact (h x y this hx hy).elim
theorem lone_none (u : List Nat) (h : ∀ (p0 : List UInt8) (x y : UInt8), (u = [] → p0 = []) → (toB u ++ p0).take 2 = [x, y] → x.toNat ∈ BR.hexCodes → y.toNat ∈ BR.hexCodes → False) (hu : ∀ c ∈ u, c < 128 ∧ c ≠ 37) : Good mp rd (⟨(37 :: u).toArray⟩, none, true) :=
  .lone u hu fun p0 h0 => ⟨no_has fun x y e => h p0 x y h0 e, no_has fun x y e => h p0 x y h0 e⟩
theorem good_lone (k : Nat) : Good mp rd (lones.getD (k % 4) Str.empty, none, true) := by
  have : k % 4 = 0 ∨ k % 4 = 1 ∨ k % 4 = 2 ∨ k % 4 = 3 := by omega
  rcases this with h | h | h | h <;> rw [h]
  · refine lone_none [122] (fun p0 x y _ e hx _ => ?_) (by decide)
    have e1 : x = 122 := (List.cons.inj e).1.symm
    subst e1
    revert hx
    decide
  · refine lone_none [52, 122] (fun p0 x y _ e _ hy => ?_) (by decide)
    have e1 : y = 122 := (List.cons.inj (List.cons.inj e).2).1.symm
    subst e1
    revert hy
    decide
  · refine lone_none [] (fun p0 x y h0 e _ _ => ?_) (by decide)
    rw [h0 rfl] at e
    cases e
  · refine lone_none [45] (fun p0 x y _ e hx _ => ?_) (by decide)
    have e1 : x = 45 := (List.cons.inj e).1.symm
    subst e1
    revert hx
    decide
theorem letter_ne (k : Nat) : letters.cps.getD (k % 10) 0 ≠ 37 := by
  have : k % 10 < 10 := by omega
  revert this
  generalize k % 10 = j
  intro hj
  have h : ∀ j, j < 10 → letters.cps.getD j 0 ≠ 37 := by decide +kernel
  exact h j hj
theorem good_piece (h : chkAll mp rd = true) (c : Nat) : Good mp rd (piece c) := by
  unfold chkAll at h
  rw [Bool.and_eq_true] at h
  have hr := List.all_eq_true.mp h.1 (c / 4 % 19) (List.mem_range.mpr (by omega))
  rw [Bool.and_eq_true] at hr
  unfold piece
  split
  · exact .plain _ (letter_ok _) (letter_ne _)
  · split
    · exact good_lone _
    · split
      · exact good_chk hr.2
      · exact good_chk hr.1
theorem good_out (h : chkAll mp rd = true) {ns : List Int} {i : Nat} : ∀ p ∈ out1 ns i, Good mp rd p := by
  intro p hp
  have h41 : Good mp rd (Str.ofString "%41", some (Str.ofString "A"), false) := by
    have h' := h
    unfold chkAll at h'
    rw [Bool.and_eq_true] at h'
    exact good_chk h'.2
  unfold out1 at hp
  split at hp
  · rcases List.mem_cons.mp hp with rfl | hp
    · exact good_piece h _
    · rw [List.mem_singleton.mp hp]; exact h41
  · rw [List.mem_singleton.mp hp]; exact good_piece h _
theorem good_pieces (h : chkAll mp rd = true) {ns : List Int} : ∀ p ∈ pieces ns, Good mp rd p := by
  intro p hp
  unfold pieces at hp
  obtain ⟨l, hl, hp⟩ := List.mem_flatten.mp hp
  obtain ⟨i, _, rfl⟩ := List.mem_map.mp hl
  exact good_out h p hp
end
theorem fol_out {ns : List Int} {i : Nat} {r : List Piece} (hr : Fol r) : Fol (out1 ns i ++ r) := by
  unfold out1
  split
  · exact ⟨fun _ q r' e => by
      have e1 := (List.cons.inj e).1
      rw [← e1]
      rfl, ⟨fun e => absurd e (by decide), hr⟩⟩
  · rename_i hne
    refine ⟨fun e => absurd ?_ hne, hr⟩
    refine PySem.Str.ext' (Array.toList_inj.mp ?_)
    rw [e]
    rfl
theorem fol_pieces {ns : List Int} : Fol (pieces ns) := by
  unfold pieces
  generalize List.range (1 + cell ns 1 % 6) = l
  induction l with
  | nil => exact True.intro
  | cons i l ih => exact fol_out ih
end Mine
namespace Mine
open PySem PySem.W PyProof.Rows
theorem cat_tx (ps : List Piece) : (cat (ps.map (·.1))).cps.toList = tx ps := by simp [cat, tx, Function.comp_def]
theorem due_dl {rd : Str} {g st : Bool} (ps : List Piece) : (due rd g st ps).cps.toList = dl rd g st ps := by
  have h : ∀ (ps : List Piece) (a : Str), (ps.foldl (fun a p => a ++ due1 rd g st p) a).cps.toList = a.cps.toList ++ dl rd g st ps := by
    intro ps
    induction ps with
    | nil => intro a; simp [dl]
    | cons p r ih =>
      intro a
      rw [List.foldl_cons, ih, PySem.Str.cps_append, Array.toList_append]
      simp [dl]
  rw [due, h]
  simp [Str.empty]
section
variable {mp : Nat} {rd : Str} {g st : Bool}
theorem good_lt {p : Piece} (h : Good mp rd p) : ∀ c ∈ (due1 rd g st p).cps.toList, c < 128 := by
  cases h with
  | plain c h1 h2 =>
    intro d hd
    have : d ∈ [c] := hd
    rw [List.mem_singleton.mp this]
    exact h1
  | lone u hu hx =>
    rw [due_lone]
    intro d hd
    rcases List.mem_append.mp hd with hd | hd
    · have h9 : ∀ d ∈ (if st then ([37, 50, 53] : List Nat) else [37]), d < 128 := by cases st <;> decide
      exact h9 d hd
    · exact (hu d hd).1
  | hex a b z ha hb hz na nb hp hm h5 =>
    rw [due_hex]
    have := up_lt ha
    have := up_lt hb
    intro d hd
    split at hd
    · rw [List.mem_singleton.mp hd]; exact hz
    · rcases List.mem_cons.mp hd with rfl | hd
      · decide
      · split at hd
        · rcases List.mem_cons.mp hd with rfl | hd
          · assumption
          · rw [List.mem_singleton.mp hd]; assumption
        · rcases List.mem_cons.mp hd with rfl | hd
          · assumption
          · rw [List.mem_singleton.mp hd]; assumption
theorem dl_lt {ps : List Piece} (hg : ∀ p ∈ ps, Good mp rd p) : ∀ c ∈ dl rd g st ps, c < 128 := by
  intro c hc
  obtain ⟨l, hl, hc⟩ := List.mem_flatten.mp hc
  obtain ⟨p, hp, rfl⟩ := List.mem_map.mp hl
  exact good_lt (hg p hp) c hc
theorem tx_lt {ps : List Piece} (hok : ∀ p ∈ ps, PieceOk p) : ∀ c ∈ tx ps, c < 128 := by
  intro c hc
  obtain ⟨l, hl, hc⟩ := List.mem_flatten.mp hc
  obtain ⟨p, hp, rfl⟩ := List.mem_map.mp hl
  exact (hok p hp).2.1 c hc
theorem tx_len {ps : List Piece} (hok : ∀ p ∈ ps, PieceOk p) : (tx ps).length ≤ ps.length * 3 := by
  have h := flat_len (n := 3) (ps.map fun p => p.1.cps.toList) fun a ha => by
    obtain ⟨p, hp, rfl⟩ := List.mem_map.mp ha
    have h1 : p.1.length ≤ 3 := (hok p hp).1.2
    have h2 : p.1.cps.toList.length = p.1.cps.size := Array.length_toList
    exact h2 ▸ h1
  rw [List.length_map] at h
  exact h
theorem toB_nat {l : List Nat} (h : ∀ c ∈ l, c < 128) : (toB l).map (fun c => c.toNat) = l := by
  rw [toB, List.map_map]
  conv => rhs; rw [← List.map_id l]
  refine List.map_congr_left fun c hc => ?_
  have := h c hc
  show c % 256 = c
  omega
theorem toB_low {l : List Nat} (h : ∀ c ∈ l, c < 128) : ∀ c ∈ toB l, c.toNat < 128 := by
  intro c hc
  obtain ⟨d, hd, rfl⟩ := List.mem_map.mp hc
  have := h d hd
  show d % 256 < 128
  omega
theorem text_lt {ps : List Piece} (hok : ∀ p ∈ ps, PieceOk p) : ∀ c ∈ (cat (ps.map (·.1))).cps.toList, c < 128 := by
  rw [cat_tx]
  exact tx_lt hok
theorem text_len {ps : List Piece} (hok : ∀ p ∈ ps, PieceOk p) (hl : ps.length ≤ 12) : (cat (ps.map (·.1))).cps.size ≤ 36 := by
  have h := tx_len hok
  have h2 : (cat (ps.map (·.1))).cps.toList.length = (cat (ps.map (·.1))).cps.size := Array.length_toList
  rw [cat_tx] at h2
  omega
theorem pd_dl {ps : List Piece} (hg : ∀ p ∈ ps, Good mp rd p) (hf : Fol ps) : pdBytes mp g st ((cat (ps.map (·.1))).cps.toList.map fun c => c.toUInt8) = toB (dl rd g st ps) := by
  rw [cat_tx]
  obtain ⟨p0, items, hs, ho, _⟩ := split_main (g := g) (st := st) ps hg hf
  unfold pdBytes
  rw [show BR.splitPct ((tx ps).map fun c => c.toUInt8) = p0 :: items from hs]
  exact ho
theorem due_size {ps : List Piece} (hok : ∀ p ∈ ps, PieceOk p) (hl : ps.length ≤ 12) : (due rd g st ps).cps.size ≤ 100 := by
  have h := due_len (rd := rd) (g := g) (st := st) ps Str.empty hok
  have h1 : Str.empty.length = 0 := rfl
  have h2 : (due rd g st ps).length ≤ 100 := by unfold due; omega
  exact h2
theorem dl_len {ps : List Piece} (hok : ∀ p ∈ ps, PieceOk p) (hl : ps.length ≤ 12) : (dl rd g st ps).length ≤ 100 := by
  have h := due_size (rd := rd) (g := g) (st := st) hok hl
  have h2 : (due rd g st ps).cps.toList.length = (due rd g st ps).cps.size := Array.length_toList
  rw [due_dl] at h2
  omega
theorem law_decodes {ps : List Piece} (hg : ∀ p ∈ ps, Good mp rd p) (hf : Fol ps) (hok : ∀ p ∈ ps, PieceOk p) (hl : ps.length ≤ 12) :
    BR.Decodes Builtin._codecs.utf8Decoder (pdBytes mp g st ((cat (ps.map (·.1))).cps.toList.map fun c => c.toUInt8)).toArray (due rd g st ps).cps := by
  rw [pd_dl hg hf]
  have hlt := dl_lt (g := g) (st := st) hg
  have h := BR.Decodes.low (b := (toB (dl rd g st ps)).toArray) (toB_low hlt) (by
    rw [List.size_toArray, toB, List.length_map, sizeLine_eq]
    have := dl_len (rd := rd) (g := g) (st := st) hok hl
    omega)
  have e : (((toB (dl rd g st ps)).toArray.toList.map fun c => c.toNat).toArray) = (due rd g st ps).cps := by
    refine Array.toList_inj.mp ?_
    rw [due_dl]
    exact toB_nat hlt
  rw [e] at h
  exact h
theorem law_one {ps : List Piece} (hg : ∀ p ∈ ps, Good mp rd p) (hf : Fol ps) (hok : ∀ p ∈ ps, PieceOk p) :
    (BR.splitPct ((cat (ps.map (·.1))).cps.toList.map fun c => c.toUInt8)).length = 1 → (⟨(due rd g st ps).cps⟩ : Str) = cat (ps.map (·.1)) := by
  intro h1
  rw [cat_tx] at h1
  obtain ⟨p0, items, hs, ho, _⟩ := split_main (g := g) (st := st) ps hg hf
  rw [show BR.splitPct ((tx ps).map fun c => c.toUInt8) = p0 :: items from hs] at h1
  have hi : items = [] := by
    cases items with
    | nil => rfl
    | cons a l => rw [List.length_cons, List.length_cons] at h1; omega
  subst hi
  have h2 := split_single hs
  rw [h2] at ho
  have h3 : toB (tx ps) = toB (dl rd g st ps) := by simpa using ho
  have h4 := congrArg (List.map fun c : UInt8 => c.toNat) h3
  rw [toB_nat (tx_lt hok), toB_nat (dl_lt (g := g) (st := st) hg)] at h4
  refine PySem.Str.ext' (Array.toList_inj.mp ?_)
  rw [cat_tx, h4]
  exact due_dl ps
end
/-- the pair of percents of two bytes -/
theorem two_bytes {ps : List Piece} (hg : ∀ p ∈ ps, Good 52 rd52 p) (hf : Fol ps) (hok : ∀ p ∈ ps, PieceOk p) (hl : ps.length ≤ 12) :
    BR.Decodes Builtin._codecs.utf8Decoder (pdBytes 52 false false ((Str.ofString "%C3%A9" ++ cat (ps.map (·.1))).cps.toList.map fun c => c.toUInt8)).toArray (Str.ofString "é" ++ due rd52 false false ps).cps ∧
    (BR.splitPct ((Str.ofString "%C3%A9" ++ cat (ps.map (·.1))).cps.toList.map fun c => c.toUInt8)).length ≠ 1 := by
  have ex : ((Str.ofString "%C3%A9" ++ cat (ps.map (·.1))).cps.toList.map fun c => c.toUInt8) = 37 :: 67 :: 51 :: 37 :: 65 :: 57 :: toB (tx ps) := by
    rw [PySem.Str.cps_append, Array.toList_append, List.map_append, cat_tx]
    rfl
  obtain ⟨p0, items, hs, ho, _⟩ := split_main (g := false) (st := false) ps hg hf
  have hsp : BR.splitPct (37 :: 67 :: 51 :: 37 :: 65 :: 57 :: toB (tx ps)) = [] :: [67, 51] :: (65 :: 57 :: p0) :: items :=
    split_pct0 (split_one (split_one (split_pct0 (split_one (split_one hs (by decide)) (by decide))) (by decide)) (by decide))
  rw [ex, hsp]
  refine ⟨?_, by simp⟩
  have e1 : itemOut 52 false false [67, 51] = [195] := by decide +kernel
  have e2 : itemOut 52 false false (65 :: 57 :: p0) = 169 :: p0 := by
    have ht : ((65 :: 57 :: p0 : List UInt8).take 2).toArray = #[65, 57] := rfl
    rw [← io_read (n := 169) (by rw [ht]; decide +kernel) (by rw [ht]; decide +kernel)]
    rfl
  have ep : pdBytes 52 false false (37 :: 67 :: 51 :: 37 :: 65 :: 57 :: toB (tx ps)) = 195 :: 169 :: toB (dl rd52 false false ps) := by
    unfold pdBytes
    rw [hsp]
    show [] ++ ((itemOut 52 false false [67, 51]) ++ ((itemOut 52 false false (65 :: 57 :: p0)) ++ (items.map (itemOut 52 false false)).flatten)) = _
    rw [e1, e2, ← ho]
    rfl
  rw [ep]
  have hlt := dl_lt (g := false) (st := false) hg
  have hlen := dl_len (rd := rd52) (g := false) (st := false) hok hl
  have h := BR.Decodes.two (b := (195 :: 169 :: toB (dl rd52 false false ps)).toArray) (r := toB (dl rd52 false false ps)) rfl (toB_low hlt) (by
    rw [List.size_toArray, List.length_cons, List.length_cons, toB, List.length_map, sizeLine_eq]
    omega)
  have e : ((233 :: (toB (dl rd52 false false ps)).map fun c => c.toNat).toArray) = (Str.ofString "é" ++ due rd52 false false ps).cps := by
    refine Array.toList_inj.mp ?_
    rw [PySem.Str.cps_append, Array.toList_append, due_dl, toB_nat hlt]
    rfl
  rw [e] at h
  exact h
theorem keep_hex (k : Nat) : keepP (⟨#[37, hexd (sg k / 16), hexd (sg k % 16)]⟩, some ⟨#[sg k]⟩, false) = false ∧ keepP (⟨#[37, up (hexd (sg k / 16)), up (hexd (sg k % 16))]⟩, some ⟨#[sg k]⟩, false) = false := by
  unfold sg
  have : k % 19 < 19 := by omega
  revert this
  generalize k % 19 = j
  intro hj
  have h : ∀ j, j < 19 → keepP (⟨#[37, hexd (signs.cps.getD j 0 / 16), hexd (signs.cps.getD j 0 % 16)]⟩, some ⟨#[signs.cps.getD j 0]⟩, false) = false ∧ keepP (⟨#[37, up (hexd (signs.cps.getD j 0 / 16)), up (hexd (signs.cps.getD j 0 % 16))]⟩, some ⟨#[signs.cps.getD j 0]⟩, false) = false := by decide +kernel
  exact h j hj
theorem keep_lone (k : Nat) : keepP (lones.getD (k % 4) Str.empty, none, true) = false := by
  have : k % 4 = 0 ∨ k % 4 = 1 ∨ k % 4 = 2 ∨ k % 4 = 3 := by omega
  rcases this with h | h | h | h <;> rw [h] <;> decide +kernel
theorem keep_piece {c : Nat} (h : keepP (piece c) = true) : ∃ d, d < 128 ∧ d ≠ 37 ∧ piece c = (⟨#[d]⟩, none, false) := by
  unfold piece at h ⊢
  split at h
  · rename_i h0
    rw [if_pos h0]
    exact ⟨_, letter_ok _, letter_ne _, rfl⟩
  · split at h
    · rw [keep_lone] at h; cases h
    · split at h
      · rw [(keep_hex _).2] at h; cases h
      · rw [(keep_hex _).1] at h; cases h
theorem keep_plain {ns : List Int} : ∀ p ∈ (pieces ns).filter keepP, ∃ d, d < 128 ∧ d ≠ 37 ∧ p = (⟨#[d]⟩, none, false) := by
  intro p hp
  obtain ⟨hp, hk⟩ := List.mem_filter.mp hp
  unfold pieces at hp
  obtain ⟨l, hl, hp⟩ := List.mem_flatten.mp hp
  obtain ⟨i, _, rfl⟩ := List.mem_map.mp hl
  unfold out1 at hp
  split at hp
  · rcases List.mem_cons.mp hp with rfl | hp
    · exact keep_piece hk
    · rw [List.mem_singleton.mp hp] at hk
      exact absurd hk (by decide +kernel)
  · rw [List.mem_singleton.mp hp] at hk ⊢
    exact keep_piece hk
theorem split_none : ∀ {l : List UInt8}, (∀ c ∈ l, c ≠ 37) → BR.splitPct l = [l]
  | [], _ => rfl
  | c :: l, h => split_one (split_none fun d hd => h d (.tail _ hd)) (h c (.head _))
/-- a text without percents stays -/
theorem plain_law {mp : Nat} {g st : Bool} {ns : List Int} : (∀ c ∈ (cat (((pieces ns).filter keepP).map (·.1))).cps.toList, c < 128) ∧ (cat (((pieces ns).filter keepP).map (·.1))).cps.size ≤ 100 ∧
    BR.Decodes Builtin._codecs.utf8Decoder (pdBytes mp g st ((cat (((pieces ns).filter keepP).map (·.1))).cps.toList.map fun c => c.toUInt8)).toArray (cat (((pieces ns).filter keepP).map (·.1))).cps := by
  have hall : ∀ c ∈ tx ((pieces ns).filter keepP), c < 128 ∧ c ≠ 37 := by
    intro c hc
    obtain ⟨l, hl, hc⟩ := List.mem_flatten.mp hc
    obtain ⟨p, hp, rfl⟩ := List.mem_map.mp hl
    obtain ⟨d, h1, h2, rfl⟩ := keep_plain p hp
    have : c ∈ [d] := hc
    rw [List.mem_singleton.mp this]
    exact ⟨h1, h2⟩
  have hok : ∀ p ∈ (pieces ns).filter keepP, PieceOk p := fun p hp => pieces_ok p (List.mem_filter.mp hp).1
  have hl : ((pieces ns).filter keepP).length ≤ 12 := Nat.le_trans (List.length_filter_le _ _) pieces_len
  have hlen := tx_len hok
  refine ⟨by rw [cat_tx]; exact fun c hc => (hall c hc).1, Nat.le_trans (text_len hok hl) (by decide), ?_⟩
  rw [cat_tx]
  have hs : BR.splitPct (toB (tx ((pieces ns).filter keepP))) = [toB (tx ((pieces ns).filter keepP))] := split_none fun c hc => by
    obtain ⟨d, hd, rfl⟩ := List.mem_map.mp hc
    exact u8_ne (hall d hd).1 (hall d hd).2
  have ep : pdBytes mp g st (toB (tx ((pieces ns).filter keepP))) = toB (tx ((pieces ns).filter keepP)) := by
    unfold pdBytes
    rw [hs]
    simp
  show BR.Decodes _ (pdBytes mp g st (toB (tx ((pieces ns).filter keepP)))).toArray _
  rw [ep]
  have h := BR.Decodes.low (b := (toB (tx ((pieces ns).filter keepP))).toArray) (toB_low fun c hc => (hall c hc).1) (by
    rw [List.size_toArray, toB, List.length_map, sizeLine_eq]
    omega)
  have e : (((toB (tx ((pieces ns).filter keepP))).toArray.toList.map fun c => c.toNat).toArray) = (cat (((pieces ns).filter keepP).map (·.1))).cps := by
    refine Array.toList_inj.mp ?_
    rw [cat_tx]
    exact toB_nat fun c hc => (hall c hc).1
  rw [e] at h
  exact h
end Mine
namespace Mine
open PySem PySem.W PyProof.Rows
section
variable {w : World} {loose : List Str} {mean : ExcName → Option Value} {mg mb : Str → Option Value} {news : List (Addr × Obj)} {x : Str} {xt : Tok} {ba bb : Bool}
  {dp un : Nat} {gd : Option (List Code)} {env : Env} {A₀ : Around} {base h₀ : Heap} {L : Addr} {m : Str → Option Value} {s : Shared} {Q E : Value → Shared → Prop} {y : Array Nat}
theorem call_dec_70 (P : At 5 w loose mean mg mb dp un env.scope [] A₀ base h₀) (XB : (tp.heap_39 w.params).In base) (TB : Top tp.view_39 loose mean mg mb base) (hf : env.frame = some L)
    (F : Fr h₀ L s.heap m) (N : News h₀ L s.heap news) (hx : ∀ c ∈ x.cps.toList, c < 128) (hz : x.cps.size ≤ 100)
    (hd : BR.Decodes Builtin._codecs.utf8Decoder (pdBytes 70 ba bb (x.cps.toList.map fun c => c.toUInt8)).toArray y) (hyz : y.size ≤ 20000) (hone : (BR.splitPct (x.cps.toList.map fun c => c.toUInt8)).length = 1 → (⟨y⟩ : Str) = x)
    (hret : ∀ t h' tk', Fr h₀ L h' m → News h₀ L h' news → Q (.str ⟨y⟩ t) { s with heap := h', toks := tk' }) :
    wpAny (model Challenge.rw_fe0139_01.row.prog w) (Ae none dp un gd env []) (call (.ref 79) [.str x xt, .bool ba, .bool bb]) Q E s := by
  have X := P.X
  revert X
  k_fill
  intro X
  refine wpAny_call ?_
  refine dec_70 (xt := xt) (ba := ba) (bb := bb) P XB TB ktsDicts_nil hf F N hx hz ?_ hd hyz hone fun t h' tk' b => hret t h' tk' b.still.1 b.still.2
  intro fd oc od osl h
  have e := h.symm.trans (show (tp.heap_39 w.params).lookup 79 = some ⟨_, _, .func (fnOf _ _ _ _ _ _ _ _ _ _ _ _), _⟩ by k_is)
  injection e with e
  injection e with e1 e2 e3 e4
  injection e3 with e3
  subst e3
  exact binds_K (X.keeps F.keep) rfl (by k_is) rfl rfl rfl
theorem call_dec_55 (P : At 5 w loose mean mg mb dp un env.scope [] A₀ base h₀) (XB : (tp.heap_39 w.params).In base) (TB : Top tp.view_39 loose mean mg mb base) (hf : env.frame = some L)
    (F : Fr h₀ L s.heap m) (N : News h₀ L s.heap news) (hx : ∀ c ∈ x.cps.toList, c < 128) (hz : x.cps.size ≤ 100)
    (hd : BR.Decodes Builtin._codecs.utf8Decoder (pdBytes 55 ba bb (x.cps.toList.map fun c => c.toUInt8)).toArray y) (hyz : y.size ≤ 20000) (hone : (BR.splitPct (x.cps.toList.map fun c => c.toUInt8)).length = 1 → (⟨y⟩ : Str) = x)
    (hret : ∀ t h' tk', Fr h₀ L h' m → News h₀ L h' news → Q (.str ⟨y⟩ t) { s with heap := h', toks := tk' }) :
    wpAny (model Challenge.rw_fe0139_01.row.prog w) (Ae none dp un gd env []) (call (.ref 87) [.str x xt, .bool ba, .bool bb]) Q E s := by
  have X := P.X
  revert X
  k_fill
  intro X
  refine wpAny_call ?_
  refine dec_55 (xt := xt) (ba := ba) (bb := bb) P XB TB ktsDicts_nil hf F N hx hz ?_ hd hyz hone fun t h' tk' b => hret t h' tk' b.still.1 b.still.2
  intro fd oc od osl h
  have e := h.symm.trans (show (tp.heap_39 w.params).lookup 87 = some ⟨_, _, .func (fnOf _ _ _ _ _ _ _ _ _ _ _ _), _⟩ by k_is)
  injection e with e
  injection e with e1 e2 e3 e4
  injection e3 with e3
  subst e3
  exact binds_K (X.keeps F.keep) rfl (by k_is) rfl rfl rfl
theorem call_dec_58 (P : At 5 w loose mean mg mb dp un env.scope [] A₀ base h₀) (XB : (tp.heap_39 w.params).In base) (TB : Top tp.view_39 loose mean mg mb base) (hf : env.frame = some L)
    (F : Fr h₀ L s.heap m) (N : News h₀ L s.heap news) (hx : ∀ c ∈ x.cps.toList, c < 128) (hz : x.cps.size ≤ 100)
    (hd : BR.Decodes Builtin._codecs.utf8Decoder (pdBytes 58 ba bb (x.cps.toList.map fun c => c.toUInt8)).toArray y) (hyz : y.size ≤ 20000) (hone : (BR.splitPct (x.cps.toList.map fun c => c.toUInt8)).length = 1 → (⟨y⟩ : Str) = x)
    (hret : ∀ t h' tk', Fr h₀ L h' m → News h₀ L h' news → Q (.str ⟨y⟩ t) { s with heap := h', toks := tk' }) :
    wpAny (model Challenge.rw_fe0139_01.row.prog w) (Ae none dp un gd env []) (call (.ref 95) [.str x xt, .bool ba, .bool bb]) Q E s := by
  have X := P.X
  revert X
  k_fill
  intro X
  refine wpAny_call ?_
  refine dec_58 (xt := xt) (ba := ba) (bb := bb) P XB TB ktsDicts_nil hf F N hx hz ?_ hd hyz hone fun t h' tk' b => hret t h' tk' b.still.1 b.still.2
  intro fd oc od osl h
  have e := h.symm.trans (show (tp.heap_39 w.params).lookup 95 = some ⟨_, _, .func (fnOf _ _ _ _ _ _ _ _ _ _ _ _), _⟩ by k_is)
  injection e with e
  injection e with e1 e2 e3 e4
  injection e3 with e3
  subst e3
  exact binds_K (X.keeps F.keep) rfl (by k_is) rfl rfl rfl
theorem call_dec_61 (P : At 5 w loose mean mg mb dp un env.scope [] A₀ base h₀) (XB : (tp.heap_39 w.params).In base) (TB : Top tp.view_39 loose mean mg mb base) (hf : env.frame = some L)
    (F : Fr h₀ L s.heap m) (N : News h₀ L s.heap news) (hx : ∀ c ∈ x.cps.toList, c < 128) (hz : x.cps.size ≤ 100)
    (hd : BR.Decodes Builtin._codecs.utf8Decoder (pdBytes 61 ba bb (x.cps.toList.map fun c => c.toUInt8)).toArray y) (hyz : y.size ≤ 20000) (hone : (BR.splitPct (x.cps.toList.map fun c => c.toUInt8)).length = 1 → (⟨y⟩ : Str) = x)
    (hret : ∀ t h' tk', Fr h₀ L h' m → News h₀ L h' news → Q (.str ⟨y⟩ t) { s with heap := h', toks := tk' }) :
    wpAny (model Challenge.rw_fe0139_01.row.prog w) (Ae none dp un gd env []) (call (.ref 103) [.str x xt, .bool ba, .bool bb]) Q E s := by
  have X := P.X
  revert X
  k_fill
  intro X
  refine wpAny_call ?_
  refine dec_61 (xt := xt) (ba := ba) (bb := bb) P XB TB ktsDicts_nil hf F N hx hz ?_ hd hyz hone fun t h' tk' b => hret t h' tk' b.still.1 b.still.2
  intro fd oc od osl h
  have e := h.symm.trans (show (tp.heap_39 w.params).lookup 103 = some ⟨_, _, .func (fnOf _ _ _ _ _ _ _ _ _ _ _ _), _⟩ by k_is)
  injection e with e
  injection e with e1 e2 e3 e4
  injection e3 with e3
  subst e3
  exact binds_K (X.keeps F.keep) rfl (by k_is) rfl rfl rfl
theorem call_dec_64 (P : At 5 w loose mean mg mb dp un env.scope [] A₀ base h₀) (XB : (tp.heap_39 w.params).In base) (TB : Top tp.view_39 loose mean mg mb base) (hf : env.frame = some L)
    (F : Fr h₀ L s.heap m) (N : News h₀ L s.heap news) (hx : ∀ c ∈ x.cps.toList, c < 128) (hz : x.cps.size ≤ 100)
    (hd : BR.Decodes Builtin._codecs.utf8Decoder (pdBytes 64 ba bb (x.cps.toList.map fun c => c.toUInt8)).toArray y) (hyz : y.size ≤ 20000) (hone : (BR.splitPct (x.cps.toList.map fun c => c.toUInt8)).length = 1 → (⟨y⟩ : Str) = x)
    (hret : ∀ t h' tk', Fr h₀ L h' m → News h₀ L h' news → Q (.str ⟨y⟩ t) { s with heap := h', toks := tk' }) :
    wpAny (model Challenge.rw_fe0139_01.row.prog w) (Ae none dp un gd env []) (call (.ref 111) [.str x xt, .bool ba, .bool bb]) Q E s := by
  have X := P.X
  revert X
  k_fill
  intro X
  refine wpAny_call ?_
  refine dec_64 (xt := xt) (ba := ba) (bb := bb) P XB TB ktsDicts_nil hf F N hx hz ?_ hd hyz hone fun t h' tk' b => hret t h' tk' b.still.1 b.still.2
  intro fd oc od osl h
  have e := h.symm.trans (show (tp.heap_39 w.params).lookup 111 = some ⟨_, _, .func (fnOf _ _ _ _ _ _ _ _ _ _ _ _), _⟩ by k_is)
  injection e with e
  injection e with e1 e2 e3 e4
  injection e3 with e3
  subst e3
  exact binds_K (X.keeps F.keep) rfl (by k_is) rfl rfl rfl
theorem call_dec_67 (P : At 5 w loose mean mg mb dp un env.scope [] A₀ base h₀) (XB : (tp.heap_39 w.params).In base) (TB : Top tp.view_39 loose mean mg mb base) (hf : env.frame = some L)
    (F : Fr h₀ L s.heap m) (N : News h₀ L s.heap news) (hx : ∀ c ∈ x.cps.toList, c < 128) (hz : x.cps.size ≤ 100)
    (hd : BR.Decodes Builtin._codecs.utf8Decoder (pdBytes 67 ba bb (x.cps.toList.map fun c => c.toUInt8)).toArray y) (hyz : y.size ≤ 20000) (hone : (BR.splitPct (x.cps.toList.map fun c => c.toUInt8)).length = 1 → (⟨y⟩ : Str) = x)
    (hret : ∀ t h' tk', Fr h₀ L h' m → News h₀ L h' news → Q (.str ⟨y⟩ t) { s with heap := h', toks := tk' }) :
    wpAny (model Challenge.rw_fe0139_01.row.prog w) (Ae none dp un gd env []) (call (.ref 119) [.str x xt, .bool ba, .bool bb]) Q E s := by
  have X := P.X
  revert X
  k_fill
  intro X
  refine wpAny_call ?_
  refine dec_67 (xt := xt) (ba := ba) (bb := bb) P XB TB ktsDicts_nil hf F N hx hz ?_ hd hyz hone fun t h' tk' b => hret t h' tk' b.still.1 b.still.2
  intro fd oc od osl h
  have e := h.symm.trans (show (tp.heap_39 w.params).lookup 119 = some ⟨_, _, .func (fnOf _ _ _ _ _ _ _ _ _ _ _ _), _⟩ by k_is)
  injection e with e
  injection e with e1 e2 e3 e4
  injection e3 with e3
  subst e3
  exact binds_K (X.keeps F.keep) rfl (by k_is) rfl rfl rfl
theorem call_pd (P : At 4 w loose mean mg mb dp un env.scope [] A₀ base h₀) (XB : (tp.heap_39 w.params).In base) (TB : Top tp.view_39 loose mean mg mb base) (hf : env.frame = some L)
    (F : Fr h₀ L s.heap m) (N : News h₀ L s.heap news) (hx : ∀ c ∈ x.cps.toList, c < 128) (hz : x.cps.size ≤ 100)
    (hd : BR.Decodes Builtin._codecs.utf8Decoder (pdBytes 52 false false (x.cps.toList.map fun c => c.toUInt8)).toArray y) (hyz : y.size ≤ 20000) (hone : (BR.splitPct (x.cps.toList.map fun c => c.toUInt8)).length = 1 → (⟨y⟩ : Str) = x)
    (hret : ∀ t h' tk', Fr h₀ L h' m → News h₀ L h' news → Q (.str ⟨y⟩ t) { s with heap := h', toks := tk' }) :
    wpAny (model Challenge.rw_fe0139_01.row.prog w) (Ae none dp un gd env []) (call (.ref 127) [.str x xt]) Q E s := by
  have X := P.X
  revert X
  k_fill
  intro X
  refine wpAny_call ?_
  refine pd (xt := xt) getC_52 P XB TB ktsDicts_nil hf F N hx hz ?_ hd hyz hone fun t h' tk' b => hret t h' tk' b.still.1 b.still.2
  intro fd oc od osl h
  have e := h.symm.trans (show (tp.heap_39 w.params).lookup 127 = some ⟨_, _, .func (fnOf _ _ _ _ _ _ _ _ _ _ _ _), _⟩ by k_is)
  injection e with e
  injection e with e1 e2 e3 e4
  injection e3 with e3
  subst e3
  exact binds_K (X.keeps F.keep) rfl (by k_is) rfl rfl rfl
end
end Mine
namespace Mine
open PySem PySem.W PyProof.Rows
section
variable {w : World} {loose : List Str} {mean : ExcName → Option Value} {mg mb : Str → Option Value} {news : List (Addr × Obj)} {xt vt : Tok} {ba bb : Bool}
  {dp un : Nat} {gd : Option (List Code)} {env : Env} {A₀ : Around} {base h₀ : Heap} {L : Addr} {m : Str → Option Value} {s : Shared} {Q E : Value → Shared → Prop} {its : Its} {ns : List Int}
theorem dec_text_70 (hq : pcs its = pieces ns) (P : At 5 w loose mean mg mb dp un env.scope [] A₀ base h₀) (XB : (tp.heap_39 w.params).In base) (TB : Top tp.view_39 loose mean mg mb base) (hf : env.frame = some L)
    (F : Fr h₀ L s.heap m) (N : News h₀ L s.heap news)
    (hret : ∀ t h' tk', Fr h₀ L h' m → News h₀ L h' news → Q (.str (due rd70 ba bb (pcs its)) t) { s with heap := h', toks := tk' }) :
    wpAny (model Challenge.rw_fe0139_01.row.prog w) (Ae none dp un gd env []) (call (.ref 79) [.str (cat ((pcs its).map (·.1))) xt, .bool ba, .bool bb]) Q E s := by
  rw [hq] at hret ⊢
  have hl := @pieces_len ns
  exact call_dec_70 (y := (due rd70 ba bb (pieces ns)).cps) P XB TB hf F N (text_lt pieces_ok) (Nat.le_trans (text_len pieces_ok hl) (by decide)) (law_decodes (good_pieces ok70) fol_pieces pieces_ok hl) (Nat.le_trans (due_size pieces_ok hl) (by decide)) (law_one (good_pieces ok70) fol_pieces pieces_ok) hret
theorem dec_text_55 (hq : pcs its = pieces ns) (P : At 5 w loose mean mg mb dp un env.scope [] A₀ base h₀) (XB : (tp.heap_39 w.params).In base) (TB : Top tp.view_39 loose mean mg mb base) (hf : env.frame = some L)
    (F : Fr h₀ L s.heap m) (N : News h₀ L s.heap news)
    (hret : ∀ t h' tk', Fr h₀ L h' m → News h₀ L h' news → Q (.str (due rd55 ba bb (pcs its)) t) { s with heap := h', toks := tk' }) :
    wpAny (model Challenge.rw_fe0139_01.row.prog w) (Ae none dp un gd env []) (call (.ref 87) [.str (cat ((pcs its).map (·.1))) xt, .bool ba, .bool bb]) Q E s := by
  rw [hq] at hret ⊢
  have hl := @pieces_len ns
  exact call_dec_55 (y := (due rd55 ba bb (pieces ns)).cps) P XB TB hf F N (text_lt pieces_ok) (Nat.le_trans (text_len pieces_ok hl) (by decide)) (law_decodes (good_pieces ok55) fol_pieces pieces_ok hl) (Nat.le_trans (due_size pieces_ok hl) (by decide)) (law_one (good_pieces ok55) fol_pieces pieces_ok) hret
theorem dec_text_58 (hq : pcs its = pieces ns) (P : At 5 w loose mean mg mb dp un env.scope [] A₀ base h₀) (XB : (tp.heap_39 w.params).In base) (TB : Top tp.view_39 loose mean mg mb base) (hf : env.frame = some L)
    (F : Fr h₀ L s.heap m) (N : News h₀ L s.heap news)
    (hret : ∀ t h' tk', Fr h₀ L h' m → News h₀ L h' news → Q (.str (due rd58 ba bb (pcs its)) t) { s with heap := h', toks := tk' }) :
    wpAny (model Challenge.rw_fe0139_01.row.prog w) (Ae none dp un gd env []) (call (.ref 95) [.str (cat ((pcs its).map (·.1))) xt, .bool ba, .bool bb]) Q E s := by
  rw [hq] at hret ⊢
  have hl := @pieces_len ns
  exact call_dec_58 (y := (due rd58 ba bb (pieces ns)).cps) P XB TB hf F N (text_lt pieces_ok) (Nat.le_trans (text_len pieces_ok hl) (by decide)) (law_decodes (good_pieces ok58) fol_pieces pieces_ok hl) (Nat.le_trans (due_size pieces_ok hl) (by decide)) (law_one (good_pieces ok58) fol_pieces pieces_ok) hret
theorem dec_text_61 (hq : pcs its = pieces ns) (P : At 5 w loose mean mg mb dp un env.scope [] A₀ base h₀) (XB : (tp.heap_39 w.params).In base) (TB : Top tp.view_39 loose mean mg mb base) (hf : env.frame = some L)
    (F : Fr h₀ L s.heap m) (N : News h₀ L s.heap news)
    (hret : ∀ t h' tk', Fr h₀ L h' m → News h₀ L h' news → Q (.str (due rd61 ba bb (pcs its)) t) { s with heap := h', toks := tk' }) :
    wpAny (model Challenge.rw_fe0139_01.row.prog w) (Ae none dp un gd env []) (call (.ref 103) [.str (cat ((pcs its).map (·.1))) xt, .bool ba, .bool bb]) Q E s := by
  rw [hq] at hret ⊢
  have hl := @pieces_len ns
  exact call_dec_61 (y := (due rd61 ba bb (pieces ns)).cps) P XB TB hf F N (text_lt pieces_ok) (Nat.le_trans (text_len pieces_ok hl) (by decide)) (law_decodes (good_pieces ok61) fol_pieces pieces_ok hl) (Nat.le_trans (due_size pieces_ok hl) (by decide)) (law_one (good_pieces ok61) fol_pieces pieces_ok) hret
theorem dec_text_64 (hq : pcs its = pieces ns) (P : At 5 w loose mean mg mb dp un env.scope [] A₀ base h₀) (XB : (tp.heap_39 w.params).In base) (TB : Top tp.view_39 loose mean mg mb base) (hf : env.frame = some L)
    (F : Fr h₀ L s.heap m) (N : News h₀ L s.heap news)
    (hret : ∀ t h' tk', Fr h₀ L h' m → News h₀ L h' news → Q (.str (due rd64 ba bb (pcs its)) t) { s with heap := h', toks := tk' }) :
    wpAny (model Challenge.rw_fe0139_01.row.prog w) (Ae none dp un gd env []) (call (.ref 111) [.str (cat ((pcs its).map (·.1))) xt, .bool ba, .bool bb]) Q E s := by
  rw [hq] at hret ⊢
  have hl := @pieces_len ns
  exact call_dec_64 (y := (due rd64 ba bb (pieces ns)).cps) P XB TB hf F N (text_lt pieces_ok) (Nat.le_trans (text_len pieces_ok hl) (by decide)) (law_decodes (good_pieces ok64) fol_pieces pieces_ok hl) (Nat.le_trans (due_size pieces_ok hl) (by decide)) (law_one (good_pieces ok64) fol_pieces pieces_ok) hret
theorem dec_text_67 (hq : pcs its = pieces ns) (P : At 5 w loose mean mg mb dp un env.scope [] A₀ base h₀) (XB : (tp.heap_39 w.params).In base) (TB : Top tp.view_39 loose mean mg mb base) (hf : env.frame = some L)
    (F : Fr h₀ L s.heap m) (N : News h₀ L s.heap news)
    (hret : ∀ t h' tk', Fr h₀ L h' m → News h₀ L h' news → Q (.str (due rd67 ba bb (pcs its)) t) { s with heap := h', toks := tk' }) :
    wpAny (model Challenge.rw_fe0139_01.row.prog w) (Ae none dp un gd env []) (call (.ref 119) [.str (cat ((pcs its).map (·.1))) xt, .bool ba, .bool bb]) Q E s := by
  rw [hq] at hret ⊢
  have hl := @pieces_len ns
  exact call_dec_67 (y := (due rd67 ba bb (pieces ns)).cps) P XB TB hf F N (text_lt pieces_ok) (Nat.le_trans (text_len pieces_ok hl) (by decide)) (law_decodes (good_pieces ok67) fol_pieces pieces_ok hl) (Nat.le_trans (due_size pieces_ok hl) (by decide)) (law_one (good_pieces ok67) fol_pieces pieces_ok) hret
theorem pd_text (hq : pcs its = pieces ns) (P : At 4 w loose mean mg mb dp un env.scope [] A₀ base h₀) (XB : (tp.heap_39 w.params).In base) (TB : Top tp.view_39 loose mean mg mb base) (hf : env.frame = some L)
    (F : Fr h₀ L s.heap m) (N : News h₀ L s.heap news)
    (hret : ∀ t h' tk', Fr h₀ L h' m → News h₀ L h' news → Q (.str (due rd52 false false (pcs its)) t) { s with heap := h', toks := tk' }) :
    wpAny (model Challenge.rw_fe0139_01.row.prog w) (Ae none dp un gd env []) (call (.ref 127) [.str (cat ((pcs its).map (·.1))) xt]) Q E s := by
  rw [hq] at hret ⊢
  have hl := @pieces_len ns
  exact call_pd (y := (due rd52 false false (pieces ns)).cps) P XB TB hf F N (text_lt pieces_ok) (Nat.le_trans (text_len pieces_ok hl) (by decide)) (law_decodes (good_pieces ok52') fol_pieces pieces_ok hl) (Nat.le_trans (due_size pieces_ok hl) (by decide)) (law_one (good_pieces ok52') fol_pieces pieces_ok) hret
theorem pd_plain (hq : pcs its = pieces ns) (P : At 4 w loose mean mg mb dp un env.scope [] A₀ base h₀) (XB : (tp.heap_39 w.params).In base) (TB : Top tp.view_39 loose mean mg mb base) (hf : env.frame = some L)
    (F : Fr h₀ L s.heap m) (N : News h₀ L s.heap news)
    (hret : ∀ t h' tk', Fr h₀ L h' m → News h₀ L h' news → Q (.str (cat (((pcs its).filter keepP).map (·.1))) t) { s with heap := h', toks := tk' }) :
    wpAny (model Challenge.rw_fe0139_01.row.prog w) (Ae none dp un gd env []) (call (.ref 127) [.str (cat (((pcs its).filter keepP).map (·.1))) xt]) Q E s := by
  rw [hq] at hret ⊢
  obtain ⟨h1, h2, h3⟩ := @plain_law 52 false false ns
  exact call_pd P XB TB hf F N h1 h2 h3 (Nat.le_trans h2 (by decide)) (fun _ => rfl) hret
theorem dec_plain_58 (hq : pcs its = pieces ns) (P : At 5 w loose mean mg mb dp un env.scope [] A₀ base h₀) (XB : (tp.heap_39 w.params).In base) (TB : Top tp.view_39 loose mean mg mb base) (hf : env.frame = some L)
    (F : Fr h₀ L s.heap m) (N : News h₀ L s.heap news)
    (hret : ∀ t h' tk', Fr h₀ L h' m → News h₀ L h' news → Q (.str (cat (((pcs its).filter keepP).map (·.1))) t) { s with heap := h', toks := tk' }) :
    wpAny (model Challenge.rw_fe0139_01.row.prog w) (Ae none dp un gd env []) (call (.ref 95) [.str (cat (((pcs its).filter keepP).map (·.1))) xt, .bool ba, .bool bb]) Q E s := by
  rw [hq] at hret ⊢
  obtain ⟨h1, h2, h3⟩ := @plain_law 58 ba bb ns
  exact call_dec_58 P XB TB hf F N h1 h2 h3 (Nat.le_trans h2 (by decide)) (fun _ => rfl) hret
theorem pd_two (hq : pcs its = pieces ns) (P : At 4 w loose mean mg mb dp un env.scope [] A₀ base h₀) (XB : (tp.heap_39 w.params).In base) (TB : Top tp.view_39 loose mean mg mb base) (hf : env.frame = some L)
    (F : Fr h₀ L s.heap m) (N : News h₀ L s.heap news)
    (hret : ∀ t h' tk', Fr h₀ L h' m → News h₀ L h' news → Q (.str (Str.ofString "é" ++ due rd52 false false (pcs its)) t) { s with heap := h', toks := tk' }) :
    wpAny (model Challenge.rw_fe0139_01.row.prog w) (Ae none dp un gd env []) (call (.ref 127) [.str (Str.ofString "%C3%A9" ++ cat ((pcs its).map (·.1))) xt]) Q E s := by
  rw [hq] at hret ⊢
  have hl := @pieces_len ns
  obtain ⟨h3, h4⟩ := two_bytes (good_pieces (ns := ns) ok52') fol_pieces pieces_ok hl
  have h36 := text_len (ps := pieces ns) pieces_ok hl
  have hds := due_size (rd := rd52) (g := false) (st := false) (ps := pieces ns) pieces_ok hl
  refine call_pd (y := (Str.ofString "é" ++ due rd52 false false (pieces ns)).cps) P XB TB hf F N ?_ ?_ h3 ?_ (fun h => absurd h h4) hret
  · intro c hc
    rw [PySem.Str.cps_append, Array.toList_append] at hc
    rcases List.mem_append.mp hc with hc | hc
    · have h9 : ∀ c ∈ (Str.ofString "%C3%A9").cps.toList, c < 128 := by decide +kernel
      exact h9 c hc
    · exact text_lt pieces_ok c hc
  · rw [PySem.Str.cps_append, Array.size_append]
    have : (Str.ofString "%C3%A9").cps.size = 6 := rfl
    omega
  · rw [PySem.Str.cps_append, Array.size_append]
    have : (Str.ofString "é").cps.size = 1 := rfl
    omega
end
end Mine
namespace Mine
open PySem PySem.W PyProof.Rows
local macro_rules | `(tactic| k_all) => `(tactic| assumption)
local macro_rules | `(tactic| walk_at "call ref") => `(tactic| (k_here; (with_reducible show wpAny _ _ (call (Value.ref 155) [Value.ref _]) _ _ _); k_dflt (refine' law_pieces ⟨?k1, ?k2, ?k3, ?k4, ?k5, ?k6⟩ ?F ?N ?hL ?hI ?hl ?_; (case F => k_asm); (case k1 => k_asm); (case N => k_asm); (case k2 => k_asm); (case k3 => k_asm); (case k4 => first | rfl | assumption); (case k5 => ktr_room); (case k6 => ktr_units); (case hL => assumption); (case hI => assumption); (case hl => omega)); intro T' its' n' h' tk' F' N' hp'; (try dsimp only); (try k_fold)))
local macro_rules | `(tactic| walk_at "call ref") => `(tactic| (k_here; (with_reducible show wpAny _ _ (call (Value.ref 134) [Value.ref _, Value.int _ _]) _ _ _); k_dflt (refine' law_cellz ⟨?k1, ?k2, ?k3, ?k4, ?k5, ?k6⟩ ?F ?N ?hL ?hI ?hl ?h0 ?h9 ?_; (case F => k_asm); (case k1 => k_asm); (case N => k_asm); (case k2 => k_asm); (case k3 => k_asm); (case k4 => first | rfl | assumption); (case k5 => ktr_room); (case k6 => ktr_units); (case hL => assumption); (case hI => assumption); (case hl => omega); (case h0 => omega); (case h9 => omega)); intro t' h' tk' F' N'; (try dsimp only); (try k_fold)))
theorem mem_app1 {l r : List (Addr × Obj)} {a : Addr × Obj} : ∀ p ∈ l, p ∈ a :: (l ++ r) := fun _ h => .tail _ (List.mem_append.mpr (.inl h))
theorem mem_app2 {l r : List (Addr × Obj)} {a b : Addr × Obj} : ∀ p ∈ l, p ∈ b :: a :: (l ++ r) := fun _ h => .tail _ (.tail _ (List.mem_append.mpr (.inl h)))
theorem mem_app3 {l r : List (Addr × Obj)} {a b c : Addr × Obj} : ∀ p ∈ l, p ∈ c :: b :: a :: (l ++ r) := fun _ h => .tail _ (.tail _ (.tail _ (List.mem_append.mpr (.inl h))))
theorem mem_app4 {l r : List (Addr × Obj)} {a b c d : Addr × Obj} : ∀ p ∈ l, p ∈ d :: c :: b :: a :: (l ++ r) := fun _ h => .tail _ (.tail _ (.tail _ (.tail _ (List.mem_append.mpr (.inl h)))))
local macro_rules | `(tactic| walk_at "pyIter ref") => `(tactic| (k_here; (with_reducible show wpAny _ _ (pyIter (Value.ref _)) (CompPost _ _ _ _ _ _ [] (PySem.Expr.Subscript _ _ _) _) _ _); k_dflt (refine' comp_text ?hh ?F ?N ?T ?O ?z ?d ?k ?x ?_; (case hh => exact rfl); (case F => k_asm); (case N => k_asm); (case T => exact .head _); (case O => first | assumption | exact mem_t2 (by assumption) | exact mem_t3 (by assumption) | exact mem_t1 (by assumption) | exact mem_app1 | exact mem_app2 | exact mem_app3 | exact mem_app4); (case z => exact its_len (by assumption)); (case d => decide); (case k => exact rfl); (case x => exact rfl)); intro D' l' h' tk' n' hl' F' N'))
local macro_rules | `(tactic| walk_at "pyIter ref") => `(tactic| (k_here; (with_reducible show wpAny _ _ (pyIter (Value.ref _)) (CompPost _ _ _ _ _ _ [PySem.Expr.Compare _ _ _ _] (PySem.Expr.Subscript _ _ _) _) _ _); k_dflt (refine' comp_plain ?hh ?F ?N ?T ?O ?z ?d ?k ?x ?_; (case hh => exact rfl); (case F => k_asm); (case N => k_asm); (case T => exact .head _); (case O => first | assumption | exact mem_t2 (by assumption) | exact mem_t3 (by assumption) | exact mem_t1 (by assumption) | exact mem_app1 | exact mem_app2 | exact mem_app3 | exact mem_app4); (case z => exact its_len (by assumption)); (case d => decide); (case k => exact rfl); (case x => exact rfl)); intro D' l' h' tk' n' hl' F' N'))
local macro_rules | `(tactic| walk_at "call builtin:str.join") => `(tactic| (k_here; (with_reducible show wpAny _ _ (call (Value.builtin "str.join") [Value.str _ _, Value.ref _]) _ _ _); (with_reducible rename pcs _ = pieces _ => hq'); (with_reducible rename List.map _ _ = List.map _ _ => he'); (with_reducible rename News _ _ _ _ => Nq'); (refine join_ys Nq' he' (by first | exact texts_len hq' | exact plain_len hq') (by first | exact texts_each hq' | exact plain_each hq') ?_); intro t' k'; (replace Nq' := cb_drop Nq' (fun _ h => .tail _ h)); clear he'))
local macro_rules | `(tactic| walk_at "call ref") => `(tactic| (k_here; (with_reducible show wpAny _ _ (call (Value.ref 79) [Value.str _ _, Value.bool _, Value.bool _]) _ _ _); k_dflt (refine' dec_text_70 ?hq ⟨?k1, ?k2, ?k3, ?k4, ?k5, ?k6⟩ ?XB ?TB ?hf ?F ?N ?_; (case hq => assumption); (case k1 => k_asm); (case k2 => k_asm); (case k3 => k_asm); (case k4 => first | rfl | assumption); (case k5 => ktr_room); (case k6 => ktr_units); (case XB => assumption); (case TB => assumption); (case hf => exact rfl); (case F => k_asm); (case N => k_asm)); intro t' h' tk' F' N'; (try dsimp only); (try k_fold)))
local macro_rules | `(tactic| walk_at "call ref") => `(tactic| (k_here; (with_reducible show wpAny _ _ (call (Value.ref 87) [Value.str _ _, Value.bool _, Value.bool _]) _ _ _); k_dflt (refine' dec_text_55 ?hq ⟨?k1, ?k2, ?k3, ?k4, ?k5, ?k6⟩ ?XB ?TB ?hf ?F ?N ?_; (case hq => assumption); (case k1 => k_asm); (case k2 => k_asm); (case k3 => k_asm); (case k4 => first | rfl | assumption); (case k5 => ktr_room); (case k6 => ktr_units); (case XB => assumption); (case TB => assumption); (case hf => exact rfl); (case F => k_asm); (case N => k_asm)); intro t' h' tk' F' N'; (try dsimp only); (try k_fold)))
local macro_rules | `(tactic| walk_at "call ref") => `(tactic| (k_here; (with_reducible show wpAny _ _ (call (Value.ref 95) [Value.str _ _, Value.bool _, Value.bool _]) _ _ _); k_dflt (refine' dec_text_58 ?hq ⟨?k1, ?k2, ?k3, ?k4, ?k5, ?k6⟩ ?XB ?TB ?hf ?F ?N ?_; (case hq => assumption); (case k1 => k_asm); (case k2 => k_asm); (case k3 => k_asm); (case k4 => first | rfl | assumption); (case k5 => ktr_room); (case k6 => ktr_units); (case XB => assumption); (case TB => assumption); (case hf => exact rfl); (case F => k_asm); (case N => k_asm)); intro t' h' tk' F' N'; (try dsimp only); (try k_fold)))
local macro_rules | `(tactic| walk_at "call ref") => `(tactic| (k_here; (with_reducible show wpAny _ _ (call (Value.ref 103) [Value.str _ _, Value.bool _, Value.bool _]) _ _ _); k_dflt (refine' dec_text_61 ?hq ⟨?k1, ?k2, ?k3, ?k4, ?k5, ?k6⟩ ?XB ?TB ?hf ?F ?N ?_; (case hq => assumption); (case k1 => k_asm); (case k2 => k_asm); (case k3 => k_asm); (case k4 => first | rfl | assumption); (case k5 => ktr_room); (case k6 => ktr_units); (case XB => assumption); (case TB => assumption); (case hf => exact rfl); (case F => k_asm); (case N => k_asm)); intro t' h' tk' F' N'; (try dsimp only); (try k_fold)))
local macro_rules | `(tactic| walk_at "call ref") => `(tactic| (k_here; (with_reducible show wpAny _ _ (call (Value.ref 111) [Value.str _ _, Value.bool _, Value.bool _]) _ _ _); k_dflt (refine' dec_text_64 ?hq ⟨?k1, ?k2, ?k3, ?k4, ?k5, ?k6⟩ ?XB ?TB ?hf ?F ?N ?_; (case hq => assumption); (case k1 => k_asm); (case k2 => k_asm); (case k3 => k_asm); (case k4 => first | rfl | assumption); (case k5 => ktr_room); (case k6 => ktr_units); (case XB => assumption); (case TB => assumption); (case hf => exact rfl); (case F => k_asm); (case N => k_asm)); intro t' h' tk' F' N'; (try dsimp only); (try k_fold)))
local macro_rules | `(tactic| walk_at "call ref") => `(tactic| (k_here; (with_reducible show wpAny _ _ (call (Value.ref 119) [Value.str _ _, Value.bool _, Value.bool _]) _ _ _); k_dflt (refine' dec_text_67 ?hq ⟨?k1, ?k2, ?k3, ?k4, ?k5, ?k6⟩ ?XB ?TB ?hf ?F ?N ?_; (case hq => assumption); (case k1 => k_asm); (case k2 => k_asm); (case k3 => k_asm); (case k4 => first | rfl | assumption); (case k5 => ktr_room); (case k6 => ktr_units); (case XB => assumption); (case TB => assumption); (case hf => exact rfl); (case F => k_asm); (case N => k_asm)); intro t' h' tk' F' N'; (try dsimp only); (try k_fold)))
local macro_rules | `(tactic| walk_at "call ref") => `(tactic| (k_here; (with_reducible show wpAny _ _ (call (Value.ref 95) [Value.str _ _, Value.bool true, Value.bool true]) _ _ _); k_dflt (refine' dec_plain_58 ?hq ⟨?k1, ?k2, ?k3, ?k4, ?k5, ?k6⟩ ?XB ?TB ?hf ?F ?N ?_; (case hq => assumption); (case k1 => k_asm); (case k2 => k_asm); (case k3 => k_asm); (case k4 => first | rfl | assumption); (case k5 => ktr_room); (case k6 => ktr_units); (case XB => assumption); (case TB => assumption); (case hf => exact rfl); (case F => k_asm); (case N => k_asm)); intro t' h' tk' F' N'; (try dsimp only); (try k_fold)))
local macro_rules | `(tactic| walk_at "call ref") => `(tactic| (k_here; (with_reducible show wpAny _ _ (call (Value.ref 127) [Value.str _ _]) _ _ _); k_dflt (refine' pd_text ?hq ⟨?k1, ?k2, ?k3, ?k4, ?k5, ?k6⟩ ?XB ?TB ?hf ?F ?N ?_; (case hq => assumption); (case k1 => k_asm); (case k2 => k_asm); (case k3 => k_asm); (case k4 => first | rfl | assumption); (case k5 => ktr_room); (case k6 => ktr_units); (case XB => assumption); (case TB => assumption); (case hf => exact rfl); (case F => k_asm); (case N => k_asm)); intro t' h' tk' F' N'; (try dsimp only); (try k_fold)))
local macro_rules | `(tactic| walk_at "call ref") => `(tactic| (k_here; (with_reducible show wpAny _ _ (call (Value.ref 127) [Value.str _ _]) _ _ _); k_dflt (refine' pd_plain ?hq ⟨?k1, ?k2, ?k3, ?k4, ?k5, ?k6⟩ ?XB ?TB ?hf ?F ?N ?_; (case hq => assumption); (case k1 => k_asm); (case k2 => k_asm); (case k3 => k_asm); (case k4 => first | rfl | assumption); (case k5 => ktr_room); (case k6 => ktr_units); (case XB => assumption); (case TB => assumption); (case hf => exact rfl); (case F => k_asm); (case N => k_asm)); intro t' h' tk' F' N'; (try dsimp only); (try k_fold)))
local macro_rules | `(tactic| walk_at "call ref") => `(tactic| (k_here; (with_reducible show wpAny _ _ (call (Value.ref 127) [Value.str _ _]) _ _ _); k_dflt (refine' pd_two ?hq ⟨?k1, ?k2, ?k3, ?k4, ?k5, ?k6⟩ ?XB ?TB ?hf ?F ?N ?_; (case hq => assumption); (case k1 => k_asm); (case k2 => k_asm); (case k3 => k_asm); (case k4 => first | rfl | assumption); (case k5 => ktr_room); (case k6 => ktr_units); (case XB => assumption); (case TB => assumption); (case hf => exact rfl); (case F => k_asm); (case N => k_asm)); intro t' h' tk' F' N'; (try dsimp only); (try k_fold)))
local macro_rules | `(tactic| walk_at "call ref") => `(tactic| (k_here; (with_reducible show wpAny _ _ (call (Value.ref 162) [Value.ref _, Value.str _ _, Value.bool _, Value.bool _]) _ _ _); k_dflt (refine' law_due ⟨?k1, ?k2, ?k3, ?k4, ?k5, ?k6⟩ ?F ?N ?hF ?hO ?hI ?hok ?_; (case F => k_asm); (case k1 => k_asm); (case N => k_asm); (case k2 => k_asm); (case k3 => k_asm); (case k4 => first | rfl | assumption); (case k5 => ktr_room); (case k6 => ktr_units); (case hF => first | exact .head _ | k_mem); (case hO => first | assumption | exact mem_t2 (by assumption) | exact mem_t3 (by assumption) | exact mem_t1 (by assumption) | exact mem_app1 | exact mem_app2 | exact mem_app3 | exact mem_app4); (case hI => exact its_len12 (by assumption)); (case hok => exact its_ok (by assumption))); intro t' h' tk' F' N'; (try dsimp only); (try k_fold)))
theorem due_ne {a b : Str} {g st : Bool} {ps : List Piece} (e : a = b) : ¬ ((due a g st ps != due b g st ps) = true) := by
  subst e
  simp
theorem self_ne {a : Str} : ¬ ((a != a) = true) := by simp
local macro_rules | `(tactic| walk_at "ite") => `(tactic| ((with_reducible show if ((due _ _ _ _ != due _ _ _ _) = true) then _ else _); (refine KBy.ite_no (due_ne (by decide +kernel)) ?_)))
local macro_rules | `(tactic| walk_at "exec For Tuple BinOp cons nil") => `(tactic| (k_here; (with_unfolding_all refine' wpAny_For ?_ ?hs; (case hs => (intro _; rfl)))))
local macro_rules | `(tactic| walk_at "ite") => `(tactic| ((with_reducible show if ((cat _ != cat _) = true) then _ else _); (refine KBy.ite_no self_ne ?_)))
local macro_rules | `(tactic| walk_at "eval ListComp") => `(tactic| (k_here; (with_reducible show wpAny _ _ (eval (PySem.Expr.ListComp (PySem.Expr.Name _ _) _ _ _) _) _ _ _); (with_reducible rename Fr _ _ _ _ => Fc'); k_dflt (refine' comp_signs ?hh Fc' ?N ?cl ?ce ?k ?na ?x ?ev ?as ?sz ?m ?d ?c ?kb ?dx ?db ?_; (case hh => exact rfl); (case N => k_asm); (case m => exact .head _); (case d => assumption); (case cl => with_unfolding_all rfl); (case ce => decide); (case k => exact rfl); (case na => decide); (case x => exact rfl); (case ev => (intro Q' hQ'; exact nameX_L Fc' rfl hQ')); (case as => decide +kernel); (case sz => decide +kernel); (case c => exact rfl); (case kb => (intro _; with_unfolding_all rfl)); (case dx => decide); (case db => decide)); intro D' l' h' tk' n' hl' F' N'))
theorem sel_len {AS bs : Str} (h : AS.cps.size ≤ 100) : (sel AS bs).length ≤ 100 := by
  unfold sel
  refine Nat.le_trans (List.length_filter_le _ _) ?_
  rw [List.length_map, Array.length_toList]
  exact h
theorem sel_each {AS bs : Str} : ∀ y ∈ sel AS bs, y.length ≤ 100 := by
  intro y hy
  obtain ⟨c, _, rfl⟩ := List.mem_map.mp (List.mem_filter.mp hy).1
  exact (by decide : 1 ≤ 100)
local macro_rules | `(tactic| walk_at "call builtin:str.join") => `(tactic| (k_here; (with_reducible show wpAny _ _ (call (Value.builtin "str.join") [Value.str _ _, Value.ref _]) _ _ _); (with_reducible rename List.map _ _ = sel _ _ => he'); (with_reducible rename News _ _ _ _ => Nq'); (refine join_ys Nq' he' (sel_len (by decide +kernel)) sel_each ?_); intro t' k'; (replace Nq' := cb_drop Nq' (fun _ h => .tail _ h)); clear he'))
theorem not1 {a z : Str} (h : [a].contains z = false) : z ≠ a := by
  rintro rfl
  simp at h
theorem add_c3 {ns : List Int} {its : Its} (hq : pcs its = pieces ns) : (Str.ofString "%C3%A9").length + (cat ((pcs its).map (·.1))).length ≤ 16777216 := by
  have h : (cat ((pcs its).map (·.1))).length ≤ 36 := by
    rw [hq]
    exact text_len pieces_ok pieces_len
  have h6 : (Str.ofString "%C3%A9").length = 6 := rfl
  omega
theorem add_e {rd : Str} {g st : Bool} {ns : List Int} {its : Its} (hq : pcs its = pieces ns) : (Str.ofString "é").length + (due rd g st (pcs its)).length ≤ 16777216 := by
  have h : (due rd g st (pcs its)).length ≤ 100 := by
    rw [hq]
    exact due_size pieces_ok pieces_len
  have h6 : (Str.ofString "é").length = 1 := rfl
  omega
local macro_rules | `(tactic| walk_at "binaryOp Add str str") => `(tactic| (k_here; (with_reducible show wpAny _ _ (binaryOp Operator.Add (Value.str _ _) (Value.str (cat _) _)) _ _ _); (refine KOpn.add (add_c3 (by assumption)) ?_); intro t' k' hl'))
local macro_rules | `(tactic| walk_at "binaryOp Add str str") => `(tactic| (k_here; (with_reducible show wpAny _ _ (binaryOp Operator.Add (Value.str _ _) (Value.str (due _ _ _ _) _)) _ _ _); (refine KOpn.add (add_e (by assumption)) ?_); intro t' k' hl'))
theorem law_walk : PySem.Challenge.rw_fe0139_01.Holds := tp (by
  w_strict (k_go0; (all_goals try k_fold); k_steps
            (with_reducible rename News _ _ _ _ => Nq)
            (with_reducible rename Fr _ _ _ _ => Fq)
            (rename Obj.data _ = Data.cell _ => hcd)
            (with_reducible rename pcs _ = pieces _ => hq)
            (obtain ⟨news, rows, hrows, N5, hne, hD, hO5, hT, hob⟩ := setup_rows Nq hcd)
            clear Nq
            (refine loop_rows (rows := rows) [Str.ofString "is_read"] rfl rfl rfl rfl rfl rfl Fq N5 hcd hne hD hO5 (by passes_own) ?_ ?_)
            · intro i q oc h tk u tl hi hoc hsub F5 N6
              subst hrows
              have N7 := put_second N6 (hsub _ hT)
              have hob2 := fun p hp => hsub p (hob p hp)
              clear N6
              match i, hi with
              | 0, hi =>
                cases hi
                dsimp only at F5 hoc ⊢
                k_steps
                (with_reducible rename Fr _ _ _ _ => Fe)
                (with_reducible rename News _ _ _ _ => Ne)
                exact rwEnd_ Fe (drop_second Ne) (fun z h1 h2 => by rw [if_neg (not1 h2), if_neg h1, h2]; rfl)
              | 1, hi =>
                cases hi
                dsimp only at F5 hoc ⊢
                k_steps
                (with_reducible rename Fr _ _ _ _ => Fe)
                (with_reducible rename News _ _ _ _ => Ne)
                exact rwEnd_ Fe (drop_second Ne) (fun z h1 h2 => by rw [if_neg (not1 h2), if_neg h1, h2]; rfl)
              | 2, hi =>
                cases hi
                dsimp only at F5 hoc ⊢
                k_steps
                (with_reducible rename Fr _ _ _ _ => Fe)
                (with_reducible rename News _ _ _ _ => Ne)
                exact rwEnd_ Fe (drop_second Ne) (fun z h1 h2 => by rw [if_neg (not1 h2), if_neg h1, h2]; rfl)
              | 3, hi =>
                cases hi
                dsimp only at F5 hoc ⊢
                k_steps
                (with_reducible rename Fr _ _ _ _ => Fe)
                (with_reducible rename News _ _ _ _ => Ne)
                exact rwEnd_ Fe (drop_second Ne) (fun z h1 h2 => by rw [if_neg (not1 h2), if_neg h1, h2]; rfl)
              | 4, hi =>
                cases hi
                dsimp only at F5 hoc ⊢
                k_steps
                (with_reducible rename Fr _ _ _ _ => Fe)
                (with_reducible rename News _ _ _ _ => Ne)
                exact rwEnd_ Fe (drop_second Ne) (fun z h1 h2 => by rw [if_neg (not1 h2), if_neg h1, h2]; rfl)
              | (i + 5), hi => cases hi
            · intro oc h tk u F5 N6
              have N7 := put_first N6 hT
              clear N6
              k_steps
              ))
end Mine
theorem PySem.Challenge.cw_fe0139_01_holds : PySem.Challenge.rw_fe0139_01.Holds := by
  exact Mine.law_walk
