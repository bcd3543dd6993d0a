section
-- ===== PART A: goes FIRST, ahead of the names: the tables' words, and 'selects' of the private methods out of them =====
/-- a private method of a class that the tables say can be made, by its rows of tables_1 -/
def lw_okq (q : MethodName × Nat) : Prop := (q.1.cls ≠ "java/lang/invoke/MethodHandle" ∧ q.1.cls ≠ "java/lang/invoke/VarHandle") ∧ Cond.instantiable q.1.cls q.2 ∈ tables_1 ∧ Cond.privateMethod q.1 ∈ tables_1 ∧ Cond.instanceMethod q.1 ∈ tables_1
set_option maxRecDepth 100000
theorem lw_p0 : lw_okq (⟨"InnerCodeModel", "nearest", "(I)I"⟩, 3) := ⟨⟨by decide +kernel, by decide +kernel⟩, List.mem_of_getElem? (i := 89) rfl, List.mem_of_getElem? (i := 137) rfl, List.mem_of_getElem? (i := 138) rfl⟩
def lw_privs_1 : List (MethodName × Nat) := [(⟨"InnerCodeModel", "nearest", "(I)I"⟩, 3)]
theorem lw_r1 : ∀ q ∈ lw_privs_1, lw_okq q := List.forall_mem_cons.mpr ⟨lw_p0, fun _ h => absurd h List.not_mem_nil⟩
def lw_privs : List (MethodName × Nat) := lw_privs_1
def lw_tbl : List Cond := k2_sels lw_privs ++ tables_1
theorem lw_privs_ok : ∀ q ∈ lw_privs, lw_okq q := lw_r1
-- ===== ONE list of words for every method: the tables' words that hold all through a run =====
def lw_all : List Cond := lw_tbl.filter goodWord
/-- a word of the tables by its place: claim/WORDS.tsv -/
theorem lw_w {w : Cond} (i : Nat) (h : lw_tbl[i]? = some w) (g : goodWord w = true) : w ∈ lw_all := List.mem_filter.mpr ⟨List.mem_of_getElem? h, g⟩
theorem lw_all_tbl {w : Cond} (h : w ∈ lw_all) : w ∈ lw_tbl := (List.mem_filter.mp h).1
theorem lw_self : GoodIn lw_all lw_all := fun w h => ⟨h, good_of_word (List.mem_filter.mp h).2⟩
/-- a class's field words, by their places -/
theorem lw_in (ws : List Cond) (ps : List Nat) (hp : ws = ps.filterMap (fun i => lw_tbl[i]?)) (hg : ws.all goodWord = true) : ∀ w ∈ ws, w ∈ lw_all := by
  intro w h
  have h1 := List.all_eq_true.mp hg w h
  rw [hp] at h
  obtain ⟨i, -, hi⟩ := List.mem_filterMap.mp h
  exact lw_w i hi h1
/-- the words of a contract for the method y with code b, L locals, answer r -/
abbrev ws_ (y : MethodName) (b : ByteArray) (L : Nat) (r : Option FieldType) : List Cond := Cond.code y b L r :: lw_all
theorem lw_meth {y : MethodName} {b : ByteArray} {L : Nat} {r : Option FieldType} (h : Cond.code y b L r ∈ lw_all) : GoodIn lw_all (ws_ y b L r) := by
  intro w hw
  rcases List.mem_cons.mp hw with e | e
  · rw [e]
    exact lw_self _ h
  · exact lw_self _ e
theorem lw_app {a c : List Cond} (ha : ∀ w ∈ a, w ∈ lw_all) (hc : GoodIn lw_all c) : GoodIn lw_all (a ++ c) := by
  intro w hw
  rcases List.mem_append.mp hw with e | e
  · exact lw_self w (ha w e)
  · exact hc w e
/-- what a call through an object asks: cwV n hts (lw_V ..) -/
theorem lw_V {own : String} {idx : Nat} {C : String} {y : MethodName} {b : ByteArray} {L : Nat} {r : Option FieldType} (h1 : Cond.methodLink own idx y ∈ lw_all) (h2 : Cond.instanceMethod y ∈ lw_all) (h3 : Cond.selects C y y ∈ lw_all) (h4 : Cond.initialized C ∈ lw_all) (h5 : Cond.code y b L r ∈ lw_all) : GoodIn lw_all (wsV own idx C y (ws_ y b L r)) := by
  refine lw_app ?_ (lw_meth h5)
  intro w hw
  simp only [List.mem_cons, List.not_mem_nil, or_false] at hw
  rcases hw with e | e | e | e
  · rw [e]; exact h1
  · rw [e]; exact h2
  · rw [e]; exact h3
  · rw [e]; exact h4
/-- what a static call asks: va_cwS n hts (lw_S ..) -/
theorem lw_S {own : String} {idx : Nat} {y : MethodName} {b : ByteArray} {L : Nat} {r : Option FieldType} (h1 : Cond.methodLink own idx y ∈ lw_all) (h2 : Cond.static y ∈ lw_all) (h3 : Cond.initialized y.cls ∈ lw_all) (h4 : Cond.code y b L r ∈ lw_all) : GoodIn lw_all (va_wsS own idx y (ws_ y b L r)) := by
  refine lw_app ?_ (lw_meth h4)
  intro w hw
  simp only [List.mem_cons, List.not_mem_nil, or_false] at hw
  rcases hw with e | e | e
  · rw [e]; exact h1
  · rw [e]; exact h2
  · rw [e]; exact h3
/-- the words of a contract for a method WITH HANDLERS (hh: its table) -/
abbrev wsW_ (y : MethodName) (b : ByteArray) (L : Nat) (r : Option FieldType) (hh : List (Nat × Nat × Nat × Nat)) : List Cond := Cond.codeWith y b L r hh :: lw_all
theorem lw_methW {y : MethodName} {b : ByteArray} {L : Nat} {r : Option FieldType} {hh : List (Nat × Nat × Nat × Nat)} (h : Cond.codeWith y b L r hh ∈ lw_all) : GoodIn lw_all (wsW_ y b L r hh) := by
  intro w hw
  rcases List.mem_cons.mp hw with e | e
  · rw [e]
    exact lw_self _ h
  · exact lw_self _ e
/-- any list of words by their places (lw_in), good -/
theorem lw_good {ws : List Cond} (h : ∀ w ∈ ws, w ∈ lw_all) : GoodIn lw_all ws := fun w hw => lw_self w (h w hw)
/-- what a call of a method with handlers asks: vx_cwVW n hts (lw_VW ..), vx_cwSW n hts (lw_SW ..) -/
theorem lw_VW {own : String} {idx : Nat} {C : String} {y : MethodName} {b : ByteArray} {L : Nat} {r : Option FieldType} {hh : List (Nat × Nat × Nat × Nat)} (h1 : Cond.methodLink own idx y ∈ lw_all) (h2 : Cond.instanceMethod y ∈ lw_all) (h3 : Cond.selects C y y ∈ lw_all) (h4 : Cond.initialized C ∈ lw_all) (h5 : Cond.codeWith y b L r hh ∈ lw_all) : GoodIn lw_all (wsV own idx C y (wsW_ y b L r hh)) := by
  refine lw_app ?_ (lw_methW h5)
  intro w hw
  simp only [List.mem_cons, List.not_mem_nil, or_false] at hw
  rcases hw with e | e | e | e
  · rw [e]; exact h1
  · rw [e]; exact h2
  · rw [e]; exact h3
  · rw [e]; exact h4
theorem lw_SW {own : String} {idx : Nat} {y : MethodName} {b : ByteArray} {L : Nat} {r : Option FieldType} {hh : List (Nat × Nat × Nat × Nat)} (h1 : Cond.methodLink own idx y ∈ lw_all) (h2 : Cond.static y ∈ lw_all) (h3 : Cond.initialized y.cls ∈ lw_all) (h4 : Cond.codeWith y b L r hh ∈ lw_all) : GoodIn lw_all (va_wsS own idx y (wsW_ y b L r hh)) := by
  refine lw_app ?_ (lw_methW h4)
  intro w hw
  simp only [List.mem_cons, List.not_mem_nil, or_false] at hw
  rcases hw with e | e | e
  · rw [e]; exact h1
  · rw [e]; exact h2
  · rw [e]; exact h3
/-- a word by its place in its run of the tables -/
theorem lw_at {r : List Cond} (hr : ∀ w ∈ r, w ∈ lw_tbl) {w : Cond} (i : Nat) (h : r[i]? = some w) : w ∈ lw_tbl := hr w (List.mem_of_getElem? h)
theorem lw_g {w : Cond} (h : w ∈ lw_tbl) (g : goodWord w = true) : w ∈ lw_all := List.mem_filter.mpr ⟨h, g⟩
theorem lw_ms : ∀ w ∈ k2_sels lw_privs, w ∈ lw_tbl := fun w h => show w ∈ k2_sels lw_privs ++ tables_1 from List.mem_append_left _ h
theorem lw_m0 : ∀ w ∈ tables_1, w ∈ lw_tbl := fun w h => show w ∈ k2_sels lw_privs ++ tables_1 from List.mem_append_right (k2_sels lw_privs) h
theorem qs0 : (Cond.selects "InnerCodeModel" ⟨"InnerCodeModel", "nearest", "(I)I"⟩ ⟨"InnerCodeModel", "nearest", "(I)I"⟩) ∈ lw_all := lw_g (lw_at lw_ms 0 rfl) rfl
end
section
/-! DECODE ROWS BY BYTES: one lemma an opcode; a method's code is cut into short pieces once, and a row reads its own piece alone. -/
set_option maxRecDepth 100000
/-- the code has just these bytes from pc on -/
def DkAt (code : ByteArray) (pc : Nat) (bs : List UInt8) : Prop := ∀ (j : Nat) (b : UInt8), bs[j]? = some b → code.data.toList[pc + j]? = some b
/-- the piece W has the bytes bs from its place j on -/
def dkIn (W : List UInt8) (j : Nat) (bs : List UInt8) : Bool := decide ((W.drop j).take bs.length = bs)
theorem dk_seg {l W T : List UInt8} {o o2 : Nat} (h : l.drop o = W ++ T) (n : Nat) (hn : W.length = n) (ho : o + n = o2) : l.drop o2 = T := by
  subst ho
  rw [← List.drop_drop, h, List.drop_left' hn]
theorem dk_at {code : ByteArray} {W T bs : List UInt8} {o pc : Nat} (h : code.data.toList.drop o = W ++ T) (j : Nat) (hp : o + j = pc) (hw : dkIn W j bs = true) : DkAt code pc bs := by
  subst hp
  intro i b e
  have h1 := of_decide_eq_true hw
  have h2 : i < bs.length := (List.getElem?_eq_some_iff.mp e).1
  have h3 : W[j + i]? = some b := by
    rw [← h1, List.getElem?_take, if_pos h2, List.getElem?_drop] at e
    exact e
  have h4 : j + i < W.length := (List.getElem?_eq_some_iff.mp h3).1
  have h5 : (code.data.toList.drop o)[j + i]? = some b := by
    rw [h, List.getElem?_append_left h4]
    exact h3
  rw [List.getElem?_drop, ← Nat.add_assoc] at h5
  exact h5
theorem dk_u1 {A : ByteArray} {p : Nat} {b : UInt8} (h : A.data.toList[p]? = some b) : (Reader.u1 : Reader DecodeError Nat) A p = .ok (b.toNat, p + 1) := by
  obtain ⟨h1, h2⟩ := List.getElem?_eq_some_iff.mp h
  have h3 : p < A.size := by simpa using h1
  have h4 : A[p]'h3 = b := h2
  have e : (Reader.u1 : Reader DecodeError Nat) A p = (if h : p < A.size then .ok (A[p].toNat, p + 1) else .error (HasTruncated.truncated p)) := by
    show (do if h : p < A.size then do set (p + 1); Pure.pure A[p].toNat else MonadExcept.throw (HasTruncated.truncated p) : Reader DecodeError Nat) A p = _
    by_cases hi : p < A.size
    · rw [dif_pos hi, dif_pos hi]; rfl
    · rw [dif_neg hi, dif_neg hi]; rfl
  rw [e, dif_pos h3, h4]
theorem dk_bind {α β : Type} {r : Reader DecodeError α} {f : α → Reader DecodeError β} {A : ByteArray} {p s : Nat} {a : α} (h : r A p = .ok (a, s)) : (r >>= f) A p = f a A s := by
  show (do let (a, s) ← r A p; f a A s : Except DecodeError (β × Nat)) = _
  rw [h]
  rfl
theorem dk_map {α β : Type} {r : Reader DecodeError α} {g : α → β} {A : ByteArray} {p s : Nat} {a : α} (h : r A p = .ok (a, s)) : (g <$> r) A p = .ok (g a, s) := by
  show (do let (a, s) ← r A p; .ok (g a, s) : Except DecodeError (β × Nat)) = _
  rw [h]
  rfl
theorem dk_u2 {A : ByteArray} {p : Nat} {a b : UInt8} (h : A.data.toList[p]? = some a) (h2 : A.data.toList[p + 1]? = some b) : (Reader.u2 : Reader DecodeError Nat) A p = .ok (a.toNat * 256 + b.toNat, p + 2) := by
  show (Reader.u1 >>= fun hi => Reader.u1 >>= fun lo => Pure.pure (hi * 256 + lo) : Reader DecodeError Nat) A p = _
  rw [dk_bind (dk_u1 h), dk_bind (dk_u1 h2)]
  rfl
theorem dk_of {code : ByteArray} {pc n : Nat} {i : Instr} (h : Decoder.instr pc code pc = .ok (i, pc + n)) : decode code pc = .ok (i, n) := by
  have e : decode code pc = (match Decoder.instr pc code pc with | .error x => .error x | .ok (j, s) => .ok (j, s - pc)) := by
    show (do let (j, s) ← Decoder.instr pc code pc; Pure.pure (j, s - pc) : Except DecodeError (Instr × Nat)) = _
    cases Decoder.instr pc code pc <;> rfl
  rw [e, h]
  show Except.ok (i, pc + n - pc) = _
  rw [Nat.add_sub_cancel_left]
theorem dk_2 {code : ByteArray} {pc : Nat} (h : DkAt code pc [2]) : decode code pc = .ok (.iconst (-1), 1) := dk_of ((dk_bind (dk_u1 (h 0 _ rfl))).trans rfl)
theorem dk_3 {code : ByteArray} {pc : Nat} (h : DkAt code pc [3]) : decode code pc = .ok (.iconst 0, 1) := dk_of ((dk_bind (dk_u1 (h 0 _ rfl))).trans rfl)
theorem dk_4 {code : ByteArray} {pc : Nat} (h : DkAt code pc [4]) : decode code pc = .ok (.iconst 1, 1) := dk_of ((dk_bind (dk_u1 (h 0 _ rfl))).trans rfl)
theorem dk_5 {code : ByteArray} {pc : Nat} (h : DkAt code pc [5]) : decode code pc = .ok (.iconst 2, 1) := dk_of ((dk_bind (dk_u1 (h 0 _ rfl))).trans rfl)
theorem dk_6 {code : ByteArray} {pc : Nat} (h : DkAt code pc [6]) : decode code pc = .ok (.iconst 3, 1) := dk_of ((dk_bind (dk_u1 (h 0 _ rfl))).trans rfl)
theorem dk_7 {code : ByteArray} {pc : Nat} (h : DkAt code pc [7]) : decode code pc = .ok (.iconst 4, 1) := dk_of ((dk_bind (dk_u1 (h 0 _ rfl))).trans rfl)
theorem dk_8 {code : ByteArray} {pc : Nat} (h : DkAt code pc [8]) : decode code pc = .ok (.iconst 5, 1) := dk_of ((dk_bind (dk_u1 (h 0 _ rfl))).trans rfl)
theorem dk_9 {code : ByteArray} {pc : Nat} (h : DkAt code pc [9]) : decode code pc = .ok (.lconst 0, 1) := dk_of ((dk_bind (dk_u1 (h 0 _ rfl))).trans rfl)
theorem dk_10 {code : ByteArray} {pc : Nat} (h : DkAt code pc [10]) : decode code pc = .ok (.lconst 1, 1) := dk_of ((dk_bind (dk_u1 (h 0 _ rfl))).trans rfl)
theorem dk_16 {code : ByteArray} {pc : Nat} (a : UInt8) (h : DkAt code pc [16, a]) : decode code pc = .ok (.bipush (Reader.signed 8 a.toNat), 2) := dk_of ((dk_bind (dk_u1 (h 0 _ rfl))).trans ((dk_bind (dk_map (dk_u1 (h 1 _ rfl)))).trans rfl))
theorem dk_17 {code : ByteArray} {pc : Nat} (a b : UInt8) (h : DkAt code pc [17, a, b]) : decode code pc = .ok (.sipush (Reader.signed 16 (a.toNat * 256 + b.toNat)), 3) := dk_of ((dk_bind (dk_u1 (h 0 _ rfl))).trans ((dk_bind (dk_map (dk_u2 (h 1 _ rfl) (h 2 _ rfl)))).trans rfl))
theorem dk_18 {code : ByteArray} {pc : Nat} (a : UInt8) (h : DkAt code pc [18, a]) : decode code pc = .ok (.ldc a.toNat, 2) := dk_of ((dk_bind (dk_u1 (h 0 _ rfl))).trans ((dk_bind (dk_u1 (h 1 _ rfl))).trans rfl))
theorem dk_20 {code : ByteArray} {pc : Nat} (a b : UInt8) (h : DkAt code pc [20, a, b]) : decode code pc = .ok (.ldc2_w (a.toNat * 256 + b.toNat), 3) := dk_of ((dk_bind (dk_u1 (h 0 _ rfl))).trans ((dk_bind (dk_u2 (h 1 _ rfl) (h 2 _ rfl))).trans rfl))
theorem dk_21 {code : ByteArray} {pc : Nat} (a : UInt8) (h : DkAt code pc [21, a]) : decode code pc = .ok (.iload a.toNat, 2) := dk_of ((dk_bind (dk_u1 (h 0 _ rfl))).trans ((dk_bind (dk_u1 (h 1 _ rfl))).trans rfl))
theorem dk_22 {code : ByteArray} {pc : Nat} (a : UInt8) (h : DkAt code pc [22, a]) : decode code pc = .ok (.lload a.toNat, 2) := dk_of ((dk_bind (dk_u1 (h 0 _ rfl))).trans ((dk_bind (dk_u1 (h 1 _ rfl))).trans rfl))
theorem dk_25 {code : ByteArray} {pc : Nat} (a : UInt8) (h : DkAt code pc [25, a]) : decode code pc = .ok (.aload a.toNat, 2) := dk_of ((dk_bind (dk_u1 (h 0 _ rfl))).trans ((dk_bind (dk_u1 (h 1 _ rfl))).trans rfl))
theorem dk_26 {code : ByteArray} {pc : Nat} (h : DkAt code pc [26]) : decode code pc = .ok (.iload_n 0, 1) := dk_of ((dk_bind (dk_u1 (h 0 _ rfl))).trans rfl)
theorem dk_27 {code : ByteArray} {pc : Nat} (h : DkAt code pc [27]) : decode code pc = .ok (.iload_n 1, 1) := dk_of ((dk_bind (dk_u1 (h 0 _ rfl))).trans rfl)
theorem dk_28 {code : ByteArray} {pc : Nat} (h : DkAt code pc [28]) : decode code pc = .ok (.iload_n 2, 1) := dk_of ((dk_bind (dk_u1 (h 0 _ rfl))).trans rfl)
theorem dk_29 {code : ByteArray} {pc : Nat} (h : DkAt code pc [29]) : decode code pc = .ok (.iload_n 3, 1) := dk_of ((dk_bind (dk_u1 (h 0 _ rfl))).trans rfl)
theorem dk_42 {code : ByteArray} {pc : Nat} (h : DkAt code pc [42]) : decode code pc = .ok (.aload_n 0, 1) := dk_of ((dk_bind (dk_u1 (h 0 _ rfl))).trans rfl)
theorem dk_43 {code : ByteArray} {pc : Nat} (h : DkAt code pc [43]) : decode code pc = .ok (.aload_n 1, 1) := dk_of ((dk_bind (dk_u1 (h 0 _ rfl))).trans rfl)
theorem dk_44 {code : ByteArray} {pc : Nat} (h : DkAt code pc [44]) : decode code pc = .ok (.aload_n 2, 1) := dk_of ((dk_bind (dk_u1 (h 0 _ rfl))).trans rfl)
theorem dk_45 {code : ByteArray} {pc : Nat} (h : DkAt code pc [45]) : decode code pc = .ok (.aload_n 3, 1) := dk_of ((dk_bind (dk_u1 (h 0 _ rfl))).trans rfl)
theorem dk_46 {code : ByteArray} {pc : Nat} (h : DkAt code pc [46]) : decode code pc = .ok (.iaload, 1) := dk_of ((dk_bind (dk_u1 (h 0 _ rfl))).trans rfl)
theorem dk_47 {code : ByteArray} {pc : Nat} (h : DkAt code pc [47]) : decode code pc = .ok (.laload, 1) := dk_of ((dk_bind (dk_u1 (h 0 _ rfl))).trans rfl)
theorem dk_51 {code : ByteArray} {pc : Nat} (h : DkAt code pc [51]) : decode code pc = .ok (.baload, 1) := dk_of ((dk_bind (dk_u1 (h 0 _ rfl))).trans rfl)
theorem dk_54 {code : ByteArray} {pc : Nat} (a : UInt8) (h : DkAt code pc [54, a]) : decode code pc = .ok (.istore a.toNat, 2) := dk_of ((dk_bind (dk_u1 (h 0 _ rfl))).trans ((dk_bind (dk_u1 (h 1 _ rfl))).trans rfl))
theorem dk_55 {code : ByteArray} {pc : Nat} (a : UInt8) (h : DkAt code pc [55, a]) : decode code pc = .ok (.lstore a.toNat, 2) := dk_of ((dk_bind (dk_u1 (h 0 _ rfl))).trans ((dk_bind (dk_u1 (h 1 _ rfl))).trans rfl))
theorem dk_58 {code : ByteArray} {pc : Nat} (a : UInt8) (h : DkAt code pc [58, a]) : decode code pc = .ok (.astore a.toNat, 2) := dk_of ((dk_bind (dk_u1 (h 0 _ rfl))).trans ((dk_bind (dk_u1 (h 1 _ rfl))).trans rfl))
theorem dk_60 {code : ByteArray} {pc : Nat} (h : DkAt code pc [60]) : decode code pc = .ok (.istore_n 1, 1) := dk_of ((dk_bind (dk_u1 (h 0 _ rfl))).trans rfl)
theorem dk_61 {code : ByteArray} {pc : Nat} (h : DkAt code pc [61]) : decode code pc = .ok (.istore_n 2, 1) := dk_of ((dk_bind (dk_u1 (h 0 _ rfl))).trans rfl)
theorem dk_62 {code : ByteArray} {pc : Nat} (h : DkAt code pc [62]) : decode code pc = .ok (.istore_n 3, 1) := dk_of ((dk_bind (dk_u1 (h 0 _ rfl))).trans rfl)
theorem dk_75 {code : ByteArray} {pc : Nat} (h : DkAt code pc [75]) : decode code pc = .ok (.astore_n 0, 1) := dk_of ((dk_bind (dk_u1 (h 0 _ rfl))).trans rfl)
theorem dk_76 {code : ByteArray} {pc : Nat} (h : DkAt code pc [76]) : decode code pc = .ok (.astore_n 1, 1) := dk_of ((dk_bind (dk_u1 (h 0 _ rfl))).trans rfl)
theorem dk_77 {code : ByteArray} {pc : Nat} (h : DkAt code pc [77]) : decode code pc = .ok (.astore_n 2, 1) := dk_of ((dk_bind (dk_u1 (h 0 _ rfl))).trans rfl)
theorem dk_78 {code : ByteArray} {pc : Nat} (h : DkAt code pc [78]) : decode code pc = .ok (.astore_n 3, 1) := dk_of ((dk_bind (dk_u1 (h 0 _ rfl))).trans rfl)
theorem dk_79 {code : ByteArray} {pc : Nat} (h : DkAt code pc [79]) : decode code pc = .ok (.iastore, 1) := dk_of ((dk_bind (dk_u1 (h 0 _ rfl))).trans rfl)
theorem dk_80 {code : ByteArray} {pc : Nat} (h : DkAt code pc [80]) : decode code pc = .ok (.lastore, 1) := dk_of ((dk_bind (dk_u1 (h 0 _ rfl))).trans rfl)
theorem dk_84 {code : ByteArray} {pc : Nat} (h : DkAt code pc [84]) : decode code pc = .ok (.bastore, 1) := dk_of ((dk_bind (dk_u1 (h 0 _ rfl))).trans rfl)
theorem dk_89 {code : ByteArray} {pc : Nat} (h : DkAt code pc [89]) : decode code pc = .ok (.dup, 1) := dk_of ((dk_bind (dk_u1 (h 0 _ rfl))).trans rfl)
theorem dk_92 {code : ByteArray} {pc : Nat} (h : DkAt code pc [92]) : decode code pc = .ok (.dup2, 1) := dk_of ((dk_bind (dk_u1 (h 0 _ rfl))).trans rfl)
theorem dk_96 {code : ByteArray} {pc : Nat} (h : DkAt code pc [96]) : decode code pc = .ok (.iadd, 1) := dk_of ((dk_bind (dk_u1 (h 0 _ rfl))).trans rfl)
theorem dk_100 {code : ByteArray} {pc : Nat} (h : DkAt code pc [100]) : decode code pc = .ok (.isub, 1) := dk_of ((dk_bind (dk_u1 (h 0 _ rfl))).trans rfl)
theorem dk_104 {code : ByteArray} {pc : Nat} (h : DkAt code pc [104]) : decode code pc = .ok (.imul, 1) := dk_of ((dk_bind (dk_u1 (h 0 _ rfl))).trans rfl)
theorem dk_112 {code : ByteArray} {pc : Nat} (h : DkAt code pc [112]) : decode code pc = .ok (.irem, 1) := dk_of ((dk_bind (dk_u1 (h 0 _ rfl))).trans rfl)
theorem dk_116 {code : ByteArray} {pc : Nat} (h : DkAt code pc [116]) : decode code pc = .ok (.ineg, 1) := dk_of ((dk_bind (dk_u1 (h 0 _ rfl))).trans rfl)
theorem dk_120 {code : ByteArray} {pc : Nat} (h : DkAt code pc [120]) : decode code pc = .ok (.ishl, 1) := dk_of ((dk_bind (dk_u1 (h 0 _ rfl))).trans rfl)
theorem dk_121 {code : ByteArray} {pc : Nat} (h : DkAt code pc [121]) : decode code pc = .ok (.lshl, 1) := dk_of ((dk_bind (dk_u1 (h 0 _ rfl))).trans rfl)
theorem dk_122 {code : ByteArray} {pc : Nat} (h : DkAt code pc [122]) : decode code pc = .ok (.ishr, 1) := dk_of ((dk_bind (dk_u1 (h 0 _ rfl))).trans rfl)
theorem dk_123 {code : ByteArray} {pc : Nat} (h : DkAt code pc [123]) : decode code pc = .ok (.lshr, 1) := dk_of ((dk_bind (dk_u1 (h 0 _ rfl))).trans rfl)
theorem dk_125 {code : ByteArray} {pc : Nat} (h : DkAt code pc [125]) : decode code pc = .ok (.lushr, 1) := dk_of ((dk_bind (dk_u1 (h 0 _ rfl))).trans rfl)
theorem dk_126 {code : ByteArray} {pc : Nat} (h : DkAt code pc [126]) : decode code pc = .ok (.iand, 1) := dk_of ((dk_bind (dk_u1 (h 0 _ rfl))).trans rfl)
theorem dk_127 {code : ByteArray} {pc : Nat} (h : DkAt code pc [127]) : decode code pc = .ok (.land, 1) := dk_of ((dk_bind (dk_u1 (h 0 _ rfl))).trans rfl)
theorem dk_128 {code : ByteArray} {pc : Nat} (h : DkAt code pc [128]) : decode code pc = .ok (.ior, 1) := dk_of ((dk_bind (dk_u1 (h 0 _ rfl))).trans rfl)
theorem dk_129 {code : ByteArray} {pc : Nat} (h : DkAt code pc [129]) : decode code pc = .ok (.lor, 1) := dk_of ((dk_bind (dk_u1 (h 0 _ rfl))).trans rfl)
theorem dk_130 {code : ByteArray} {pc : Nat} (h : DkAt code pc [130]) : decode code pc = .ok (.ixor, 1) := dk_of ((dk_bind (dk_u1 (h 0 _ rfl))).trans rfl)
theorem dk_131 {code : ByteArray} {pc : Nat} (h : DkAt code pc [131]) : decode code pc = .ok (.lxor, 1) := dk_of ((dk_bind (dk_u1 (h 0 _ rfl))).trans rfl)
theorem dk_132 {code : ByteArray} {pc : Nat} (a b : UInt8) (h : DkAt code pc [132, a, b]) : decode code pc = .ok (.iinc a.toNat (Reader.signed 8 b.toNat), 3) := dk_of ((dk_bind (dk_u1 (h 0 _ rfl))).trans ((dk_bind (dk_u1 (h 1 _ rfl))).trans ((dk_bind (dk_map (dk_u1 (h 2 _ rfl)))).trans rfl)))
theorem dk_133 {code : ByteArray} {pc : Nat} (h : DkAt code pc [133]) : decode code pc = .ok (.i2l, 1) := dk_of ((dk_bind (dk_u1 (h 0 _ rfl))).trans rfl)
theorem dk_136 {code : ByteArray} {pc : Nat} (h : DkAt code pc [136]) : decode code pc = .ok (.l2i, 1) := dk_of ((dk_bind (dk_u1 (h 0 _ rfl))).trans rfl)
theorem dk_145 {code : ByteArray} {pc : Nat} (h : DkAt code pc [145]) : decode code pc = .ok (.i2b, 1) := dk_of ((dk_bind (dk_u1 (h 0 _ rfl))).trans rfl)
theorem dk_153 {code : ByteArray} {pc : Nat} (a b : UInt8) (h : DkAt code pc [153, a, b]) : decode code pc = .ok (.ifCond .eq (Reader.signed 16 (a.toNat * 256 + b.toNat)), 3) := dk_of ((dk_bind (dk_u1 (h 0 _ rfl))).trans ((dk_bind (dk_map (dk_u2 (h 1 _ rfl) (h 2 _ rfl)))).trans rfl))
theorem dk_154 {code : ByteArray} {pc : Nat} (a b : UInt8) (h : DkAt code pc [154, a, b]) : decode code pc = .ok (.ifCond .ne (Reader.signed 16 (a.toNat * 256 + b.toNat)), 3) := dk_of ((dk_bind (dk_u1 (h 0 _ rfl))).trans ((dk_bind (dk_map (dk_u2 (h 1 _ rfl) (h 2 _ rfl)))).trans rfl))
theorem dk_158 {code : ByteArray} {pc : Nat} (a b : UInt8) (h : DkAt code pc [158, a, b]) : decode code pc = .ok (.ifCond .le (Reader.signed 16 (a.toNat * 256 + b.toNat)), 3) := dk_of ((dk_bind (dk_u1 (h 0 _ rfl))).trans ((dk_bind (dk_map (dk_u2 (h 1 _ rfl) (h 2 _ rfl)))).trans rfl))
theorem dk_159 {code : ByteArray} {pc : Nat} (a b : UInt8) (h : DkAt code pc [159, a, b]) : decode code pc = .ok (.if_icmp .eq (Reader.signed 16 (a.toNat * 256 + b.toNat)), 3) := dk_of ((dk_bind (dk_u1 (h 0 _ rfl))).trans ((dk_bind (dk_map (dk_u2 (h 1 _ rfl) (h 2 _ rfl)))).trans rfl))
theorem dk_160 {code : ByteArray} {pc : Nat} (a b : UInt8) (h : DkAt code pc [160, a, b]) : decode code pc = .ok (.if_icmp .ne (Reader.signed 16 (a.toNat * 256 + b.toNat)), 3) := dk_of ((dk_bind (dk_u1 (h 0 _ rfl))).trans ((dk_bind (dk_map (dk_u2 (h 1 _ rfl) (h 2 _ rfl)))).trans rfl))
theorem dk_161 {code : ByteArray} {pc : Nat} (a b : UInt8) (h : DkAt code pc [161, a, b]) : decode code pc = .ok (.if_icmp .lt (Reader.signed 16 (a.toNat * 256 + b.toNat)), 3) := dk_of ((dk_bind (dk_u1 (h 0 _ rfl))).trans ((dk_bind (dk_map (dk_u2 (h 1 _ rfl) (h 2 _ rfl)))).trans rfl))
theorem dk_162 {code : ByteArray} {pc : Nat} (a b : UInt8) (h : DkAt code pc [162, a, b]) : decode code pc = .ok (.if_icmp .ge (Reader.signed 16 (a.toNat * 256 + b.toNat)), 3) := dk_of ((dk_bind (dk_u1 (h 0 _ rfl))).trans ((dk_bind (dk_map (dk_u2 (h 1 _ rfl) (h 2 _ rfl)))).trans rfl))
theorem dk_163 {code : ByteArray} {pc : Nat} (a b : UInt8) (h : DkAt code pc [163, a, b]) : decode code pc = .ok (.if_icmp .gt (Reader.signed 16 (a.toNat * 256 + b.toNat)), 3) := dk_of ((dk_bind (dk_u1 (h 0 _ rfl))).trans ((dk_bind (dk_map (dk_u2 (h 1 _ rfl) (h 2 _ rfl)))).trans rfl))
theorem dk_164 {code : ByteArray} {pc : Nat} (a b : UInt8) (h : DkAt code pc [164, a, b]) : decode code pc = .ok (.if_icmp .le (Reader.signed 16 (a.toNat * 256 + b.toNat)), 3) := dk_of ((dk_bind (dk_u1 (h 0 _ rfl))).trans ((dk_bind (dk_map (dk_u2 (h 1 _ rfl) (h 2 _ rfl)))).trans rfl))
theorem dk_167 {code : ByteArray} {pc : Nat} (a b : UInt8) (h : DkAt code pc [167, a, b]) : decode code pc = .ok (.goto (Reader.signed 16 (a.toNat * 256 + b.toNat)), 3) := dk_of ((dk_bind (dk_u1 (h 0 _ rfl))).trans ((dk_bind (dk_map (dk_u2 (h 1 _ rfl) (h 2 _ rfl)))).trans rfl))
theorem dk_172 {code : ByteArray} {pc : Nat} (h : DkAt code pc [172]) : decode code pc = .ok (.ireturn, 1) := dk_of ((dk_bind (dk_u1 (h 0 _ rfl))).trans rfl)
theorem dk_177 {code : ByteArray} {pc : Nat} (h : DkAt code pc [177]) : decode code pc = .ok (.return_, 1) := dk_of ((dk_bind (dk_u1 (h 0 _ rfl))).trans rfl)
theorem dk_180 {code : ByteArray} {pc : Nat} (a b : UInt8) (h : DkAt code pc [180, a, b]) : decode code pc = .ok (.getfield (a.toNat * 256 + b.toNat), 3) := dk_of ((dk_bind (dk_u1 (h 0 _ rfl))).trans ((dk_bind (dk_u2 (h 1 _ rfl) (h 2 _ rfl))).trans rfl))
theorem dk_181 {code : ByteArray} {pc : Nat} (a b : UInt8) (h : DkAt code pc [181, a, b]) : decode code pc = .ok (.putfield (a.toNat * 256 + b.toNat), 3) := dk_of ((dk_bind (dk_u1 (h 0 _ rfl))).trans ((dk_bind (dk_u2 (h 1 _ rfl) (h 2 _ rfl))).trans rfl))
theorem dk_182 {code : ByteArray} {pc : Nat} (a b : UInt8) (h : DkAt code pc [182, a, b]) : decode code pc = .ok (.invokevirtual (a.toNat * 256 + b.toNat), 3) := dk_of ((dk_bind (dk_u1 (h 0 _ rfl))).trans ((dk_bind (dk_u2 (h 1 _ rfl) (h 2 _ rfl))).trans rfl))
theorem dk_183 {code : ByteArray} {pc : Nat} (a b : UInt8) (h : DkAt code pc [183, a, b]) : decode code pc = .ok (.invokespecial (a.toNat * 256 + b.toNat), 3) := dk_of ((dk_bind (dk_u1 (h 0 _ rfl))).trans ((dk_bind (dk_u2 (h 1 _ rfl) (h 2 _ rfl))).trans rfl))
theorem dk_184 {code : ByteArray} {pc : Nat} (a b : UInt8) (h : DkAt code pc [184, a, b]) : decode code pc = .ok (.invokestatic (a.toNat * 256 + b.toNat), 3) := dk_of ((dk_bind (dk_u1 (h 0 _ rfl))).trans ((dk_bind (dk_u2 (h 1 _ rfl) (h 2 _ rfl))).trans rfl))
theorem dk_187 {code : ByteArray} {pc : Nat} (a b : UInt8) (h : DkAt code pc [187, a, b]) : decode code pc = .ok (.new (a.toNat * 256 + b.toNat), 3) := dk_of ((dk_bind (dk_u1 (h 0 _ rfl))).trans ((dk_bind (dk_u2 (h 1 _ rfl) (h 2 _ rfl))).trans rfl))
theorem dk_188_4 {code : ByteArray} {pc : Nat} (h : DkAt code pc [188, 4]) : decode code pc = .ok (.newarray .boolean, 2) := dk_of ((dk_bind (dk_u1 (h 0 _ rfl))).trans ((dk_bind (dk_u1 (h 1 _ rfl))).trans rfl))
theorem dk_188_8 {code : ByteArray} {pc : Nat} (h : DkAt code pc [188, 8]) : decode code pc = .ok (.newarray .byte, 2) := dk_of ((dk_bind (dk_u1 (h 0 _ rfl))).trans ((dk_bind (dk_u1 (h 1 _ rfl))).trans rfl))
theorem dk_188_10 {code : ByteArray} {pc : Nat} (h : DkAt code pc [188, 10]) : decode code pc = .ok (.newarray .int, 2) := dk_of ((dk_bind (dk_u1 (h 0 _ rfl))).trans ((dk_bind (dk_u1 (h 1 _ rfl))).trans rfl))
theorem dk_188_11 {code : ByteArray} {pc : Nat} (h : DkAt code pc [188, 11]) : decode code pc = .ok (.newarray .long, 2) := dk_of ((dk_bind (dk_u1 (h 0 _ rfl))).trans ((dk_bind (dk_u1 (h 1 _ rfl))).trans rfl))
theorem dk_190 {code : ByteArray} {pc : Nat} (h : DkAt code pc [190]) : decode code pc = .ok (.arraylength, 1) := dk_of ((dk_bind (dk_u1 (h 0 _ rfl))).trans rfl)
/-! java/lang/Math -/
set_option maxRecDepth 100000
def RJ0 : String := "java/lang/Math"
abbrev cJ0_max : ByteArray := prog_6_method_65_code
def yJ0_max : MethodName := ⟨RJ0, "max", "(II)I"⟩
def dkwJ0_max_0 : List UInt8 := [26, 27, 161, 0, 7, 26, 167, 0, 4, 27, 172]
abbrev dktJ0_max_0 : List UInt8 := dkwJ0_max_0 ++ []
theorem dksJ0_max_0 : cJ0_max.data.toList.drop 0 = dktJ0_max_0 := by decide +kernel
theorem dJ0_max_0 : decode cJ0_max 0 = .ok (.iload_n 0, 1) := dk_26 (dk_at dksJ0_max_0 0 rfl rfl)
theorem dJ0_max_1 : decode cJ0_max 1 = .ok (.iload_n 1, 1) := dk_27 (dk_at dksJ0_max_0 1 rfl rfl)
theorem dJ0_max_2 : decode cJ0_max 2 = .ok (.if_icmp .lt 7, 3) := dk_161 0 7 (dk_at dksJ0_max_0 2 rfl rfl)
theorem dJ0_max_5 : decode cJ0_max 5 = .ok (.iload_n 0, 1) := dk_26 (dk_at dksJ0_max_0 5 rfl rfl)
theorem dJ0_max_6 : decode cJ0_max 6 = .ok (.goto 4, 3) := dk_167 0 4 (dk_at dksJ0_max_0 6 rfl rfl)
theorem dJ0_max_9 : decode cJ0_max 9 = .ok (.iload_n 1, 1) := dk_27 (dk_at dksJ0_max_0 9 rfl rfl)
theorem dJ0_max_10 : decode cJ0_max 10 = .ok (.ireturn, 1) := dk_172 (dk_at dksJ0_max_0 10 rfl rfl)
theorem q6 : (Jvm.Cond.initialized "java/lang/Math") ∈ lw_all := lw_g (lw_at lw_m0 5 rfl) rfl
theorem q83 : (Jvm.Cond.static ({ cls := "java/lang/Math", name := "max", desc := "(II)I" } : Jvm.MethodName)) ∈ lw_all := lw_g (lw_at lw_m0 82 rfl) rfl
theorem q84 : (Jvm.Cond.code ({ cls := "java/lang/Math", name := "max", desc := "(II)I" } : Jvm.MethodName) prog_6_method_65_code (2 : Nat) (Option.some Jvm.ClassFile.FieldType.int)) ∈ lw_all := lw_g (lw_at lw_m0 83 rfl) rfl
/-! java/lang/Object -/
set_option maxRecDepth 100000
def RJ1 : String := "java/lang/Object"
abbrev cJ1_init : ByteArray := object_method_1_code
def yJ1_init : MethodName := ⟨RJ1, "<init>", "()V"⟩
theorem dJ1_init_0 : decode cJ1_init 0 = .ok (.return_, 1) := by decide +kernel
theorem q13 : (Jvm.Cond.instanceMethod ({ cls := "java/lang/Object", name := "<init>", desc := "()V" } : Jvm.MethodName)) ∈ lw_all := lw_g (lw_at lw_m0 12 rfl) rfl
theorem q14 : (Jvm.Cond.code ({ cls := "java/lang/Object", name := "<init>", desc := "()V" } : Jvm.MethodName) object_method_1_code (1 : Nat) (Option.none : Option Jvm.ClassFile.FieldType)) ∈ lw_all := lw_g (lw_at lw_m0 13 rfl) rfl
theorem q28 : (Jvm.Cond.arrayClass Jvm.ClassFile.FieldType.byte) ∈ lw_all := lw_g (lw_at lw_m0 27 rfl) rfl
set_option maxRecDepth 100000
theorem q29 : (Jvm.Cond.arrayClass Jvm.ClassFile.FieldType.long) ∈ lw_all := lw_g (lw_at lw_m0 28 rfl) rfl
theorem q53 : (Jvm.Cond.arrayClass Jvm.ClassFile.FieldType.int) ∈ lw_all := lw_g (lw_at lw_m0 52 rfl) rfl
theorem q105 : (Jvm.Cond.arrayClass Jvm.ClassFile.FieldType.boolean) ∈ lw_all := lw_g (lw_at lw_m0 104 rfl) rfl
theorem q1 : (Jvm.Cond.initialized "InnerCodeLaw") ∈ lw_all := lw_g (lw_at lw_m0 0 rfl) rfl
set_option maxRecDepth 100000
theorem q7 : (Jvm.Cond.classLink "InnerCodeLaw" (7 : Nat) "InnerCode") ∈ lw_all := lw_g (lw_at lw_m0 6 rfl) rfl
theorem q9 : (Jvm.Cond.methodLink "InnerCodeLaw" (9 : Nat) ({ cls := "InnerCode", name := "<init>", desc := "()V" } : Jvm.MethodName)) ∈ lw_all := lw_g (lw_at lw_m0 8 rfl) rfl
theorem q30 : (Jvm.Cond.methodLink "InnerCodeLaw" (13 : Nat) ({ cls := "InnerCode", name := "letter", desc := "(II)V" } : Jvm.MethodName)) ∈ lw_all := lw_g (lw_at lw_m0 29 rfl) rfl
theorem q34 : (Jvm.Cond.methodLink "InnerCodeLaw" (18 : Nat) ({ cls := "InnerCode", name := "write", desc := "()V" } : Jvm.MethodName)) ∈ lw_all := lw_g (lw_at lw_m0 33 rfl) rfl
theorem q54 : (Jvm.Cond.methodLink "InnerCodeLaw" (22 : Nat) ({ cls := "InnerCode", name := "harm", desc := "(I)Z" } : Jvm.MethodName)) ∈ lw_all := lw_g (lw_at lw_m0 53 rfl) rfl
theorem q59 : (Jvm.Cond.methodLink "InnerCodeLaw" (27 : Nat) ({ cls := "InnerCode", name := "bit", desc := "(I)I" } : Jvm.MethodName)) ∈ lw_all := lw_g (lw_at lw_m0 58 rfl) rfl
theorem q63 : (Jvm.Cond.methodLink "InnerCodeLaw" (32 : Nat) ({ cls := "InnerCode", name := "read", desc := "()I" } : Jvm.MethodName)) ∈ lw_all := lw_g (lw_at lw_m0 62 rfl) rfl
theorem q85 : (Jvm.Cond.methodLink "InnerCodeLaw" (37 : Nat) ({ cls := "InnerCode", name := "letter", desc := "(I)I" } : Jvm.MethodName)) ∈ lw_all := lw_g (lw_at lw_m0 84 rfl) rfl
theorem q89 : (Jvm.Cond.classLink "InnerCodeLaw" (10 : Nat) "InnerCodeModel") ∈ lw_all := lw_g (lw_at lw_m0 88 rfl) rfl
theorem q91 : (Jvm.Cond.methodLink "InnerCodeLaw" (12 : Nat) ({ cls := "InnerCodeModel", name := "<init>", desc := "()V" } : Jvm.MethodName)) ∈ lw_all := lw_g (lw_at lw_m0 90 rfl) rfl
theorem q106 : (Jvm.Cond.methodLink "InnerCodeLaw" (17 : Nat) ({ cls := "InnerCodeModel", name := "letter", desc := "(II)V" } : Jvm.MethodName)) ∈ lw_all := lw_g (lw_at lw_m0 105 rfl) rfl
theorem q110 : (Jvm.Cond.methodLink "InnerCodeLaw" (39 : Nat) ({ cls := "InnerCodeModel", name := "letter", desc := "(I)I" } : Jvm.MethodName)) ∈ lw_all := lw_g (lw_at lw_m0 109 rfl) rfl
theorem q114 : (Jvm.Cond.methodLink "InnerCodeLaw" (21 : Nat) ({ cls := "InnerCodeModel", name := "write", desc := "()V" } : Jvm.MethodName)) ∈ lw_all := lw_g (lw_at lw_m0 113 rfl) rfl
theorem q121 : (Jvm.Cond.methodLink "InnerCodeLaw" (26 : Nat) ({ cls := "InnerCodeModel", name := "harm", desc := "(I)Z" } : Jvm.MethodName)) ∈ lw_all := lw_g (lw_at lw_m0 120 rfl) rfl
theorem q129 : (Jvm.Cond.methodLink "InnerCodeLaw" (31 : Nat) ({ cls := "InnerCodeModel", name := "bit", desc := "(I)I" } : Jvm.MethodName)) ∈ lw_all := lw_g (lw_at lw_m0 128 rfl) rfl
theorem q133 : (Jvm.Cond.methodLink "InnerCodeLaw" (36 : Nat) ({ cls := "InnerCodeModel", name := "read", desc := "()I" } : Jvm.MethodName)) ∈ lw_all := lw_g (lw_at lw_m0 132 rfl) rfl
/-! InnerCode -/
set_option maxRecDepth 100000
def RX0 : String := "InnerCode"
def TX0 : u_T := fun k => match k with
  | 0 => ("InnerCode", "letters", "[B", true)
  | 1 => ("InnerCode", "word", "[J", true)
  | 2 => ("InnerCode", "read", "[B", true)
  | _ => ("InnerCode", "harmed", "I", false)
def tyX0 : Nat → FieldType := fun k => match k with
  | 0 => .array .byte
  | 1 => .array .long
  | 2 => .array .byte
  | _ => .int
abbrev wsX00 : List Cond := u_ws RX0 TX0 4
theorem nmX0 : ∀ a, a < 4 → ∀ b, b < 4 → a ≠ b → (TX0 a).2.1 ≠ (TX0 b).2.1 := by decide +kernel
theorem tyX0_ok : ∀ k, k < 4 → parseFieldDescriptor (TX0 k).2.2.1 = some (tyX0 k) := by decide +kernel
abbrev cX0_init : ByteArray := prog_1_method_1_code
def yX0_init : MethodName := ⟨RX0, "<init>", "()V"⟩
def dkwX0_init_1 : List UInt8 := [181, 0, 17, 177]
abbrev dktX0_init_1 : List UInt8 := dkwX0_init_1 ++ []
def dkwX0_init_0 : List UInt8 := [42, 183, 0, 1, 42, 7, 188, 8, 181, 0, 9, 42, 16, 24, 188, 11, 181, 0, 13, 42, 7, 188, 8]
abbrev dktX0_init_0 : List UInt8 := dkwX0_init_0 ++ dktX0_init_1
theorem dksX0_init_0 : cX0_init.data.toList.drop 0 = dktX0_init_0 := by decide +kernel
theorem dksX0_init_1 : cX0_init.data.toList.drop 23 = dktX0_init_1 := dk_seg dksX0_init_0 23 rfl rfl
theorem dX0_init_0 : decode cX0_init 0 = .ok (.aload_n 0, 1) := dk_42 (dk_at dksX0_init_0 0 rfl rfl)
theorem dX0_init_1 : decode cX0_init 1 = .ok (.invokespecial 1, 3) := dk_183 0 1 (dk_at dksX0_init_0 1 rfl rfl)
theorem dX0_init_4 : decode cX0_init 4 = .ok (.aload_n 0, 1) := dk_42 (dk_at dksX0_init_0 4 rfl rfl)
theorem dX0_init_5 : decode cX0_init 5 = .ok (.iconst 4, 1) := dk_7 (dk_at dksX0_init_0 5 rfl rfl)
theorem dX0_init_6 : decode cX0_init 6 = .ok (.newarray .byte, 2) := dk_188_8 (dk_at dksX0_init_0 6 rfl rfl)
theorem dX0_init_8 : decode cX0_init 8 = .ok (.putfield 9, 3) := dk_181 0 9 (dk_at dksX0_init_0 8 rfl rfl)
theorem dX0_init_11 : decode cX0_init 11 = .ok (.aload_n 0, 1) := dk_42 (dk_at dksX0_init_0 11 rfl rfl)
theorem dX0_init_12 : decode cX0_init 12 = .ok (.bipush 24, 2) := dk_16 24 (dk_at dksX0_init_0 12 rfl rfl)
theorem dX0_init_14 : decode cX0_init 14 = .ok (.newarray .long, 2) := dk_188_11 (dk_at dksX0_init_0 14 rfl rfl)
theorem dX0_init_16 : decode cX0_init 16 = .ok (.putfield 13, 3) := dk_181 0 13 (dk_at dksX0_init_0 16 rfl rfl)
theorem dX0_init_19 : decode cX0_init 19 = .ok (.aload_n 0, 1) := dk_42 (dk_at dksX0_init_0 19 rfl rfl)
theorem dX0_init_20 : decode cX0_init 20 = .ok (.iconst 4, 1) := dk_7 (dk_at dksX0_init_0 20 rfl rfl)
theorem dX0_init_21 : decode cX0_init 21 = .ok (.newarray .byte, 2) := dk_188_8 (dk_at dksX0_init_0 21 rfl rfl)
theorem dX0_init_23 : decode cX0_init 23 = .ok (.putfield 17, 3) := dk_181 0 17 (dk_at dksX0_init_1 0 rfl rfl)
theorem dX0_init_26 : decode cX0_init 26 = .ok (.return_, 1) := dk_177 (dk_at dksX0_init_1 3 rfl rfl)
abbrev cX0_letter : ByteArray := prog_1_method_2_code
def yX0_letter : MethodName := ⟨RX0, "letter", "(II)V"⟩
def dkwX0_letter_0 : List UInt8 := [42, 180, 0, 9, 27, 6, 126, 28, 145, 84, 177]
abbrev dktX0_letter_0 : List UInt8 := dkwX0_letter_0 ++ []
theorem dksX0_letter_0 : cX0_letter.data.toList.drop 0 = dktX0_letter_0 := by decide +kernel
theorem dX0_letter_0 : decode cX0_letter 0 = .ok (.aload_n 0, 1) := dk_42 (dk_at dksX0_letter_0 0 rfl rfl)
theorem dX0_letter_1 : decode cX0_letter 1 = .ok (.getfield 9, 3) := dk_180 0 9 (dk_at dksX0_letter_0 1 rfl rfl)
theorem dX0_letter_4 : decode cX0_letter 4 = .ok (.iload_n 1, 1) := dk_27 (dk_at dksX0_letter_0 4 rfl rfl)
theorem dX0_letter_5 : decode cX0_letter 5 = .ok (.iconst 3, 1) := dk_6 (dk_at dksX0_letter_0 5 rfl rfl)
theorem dX0_letter_6 : decode cX0_letter 6 = .ok (.iand, 1) := dk_126 (dk_at dksX0_letter_0 6 rfl rfl)
theorem dX0_letter_7 : decode cX0_letter 7 = .ok (.iload_n 2, 1) := dk_28 (dk_at dksX0_letter_0 7 rfl rfl)
theorem dX0_letter_8 : decode cX0_letter 8 = .ok (.i2b, 1) := dk_145 (dk_at dksX0_letter_0 8 rfl rfl)
theorem dX0_letter_9 : decode cX0_letter 9 = .ok (.bastore, 1) := dk_84 (dk_at dksX0_letter_0 9 rfl rfl)
theorem dX0_letter_10 : decode cX0_letter 10 = .ok (.return_, 1) := dk_177 (dk_at dksX0_letter_0 10 rfl rfl)
abbrev cX0_write : ByteArray := prog_1_method_3_code
def yX0_write : MethodName := ⟨RX0, "write", "()V"⟩
def dkwX0_write_1 : List UInt8 := [42, 180, 0, 13, 42, 180, 0, 9, 7, 6, 184, 0, 20, 42, 3, 181, 0, 26, 177]
abbrev dktX0_write_1 : List UInt8 := dkwX0_write_1 ++ []
def dkwX0_write_0 : List UInt8 := [3, 60, 27, 42, 180, 0, 13, 190, 162, 0, 16, 42, 180, 0, 13, 27, 9, 80, 132, 1, 1, 167, 255, 237]
abbrev dktX0_write_0 : List UInt8 := dkwX0_write_0 ++ dktX0_write_1
theorem dksX0_write_0 : cX0_write.data.toList.drop 0 = dktX0_write_0 := by decide +kernel
theorem dksX0_write_1 : cX0_write.data.toList.drop 24 = dktX0_write_1 := dk_seg dksX0_write_0 24 rfl rfl
theorem dX0_write_0 : decode cX0_write 0 = .ok (.iconst 0, 1) := dk_3 (dk_at dksX0_write_0 0 rfl rfl)
theorem dX0_write_1 : decode cX0_write 1 = .ok (.istore_n 1, 1) := dk_60 (dk_at dksX0_write_0 1 rfl rfl)
theorem dX0_write_2 : decode cX0_write 2 = .ok (.iload_n 1, 1) := dk_27 (dk_at dksX0_write_0 2 rfl rfl)
theorem dX0_write_3 : decode cX0_write 3 = .ok (.aload_n 0, 1) := dk_42 (dk_at dksX0_write_0 3 rfl rfl)
theorem dX0_write_4 : decode cX0_write 4 = .ok (.getfield 13, 3) := dk_180 0 13 (dk_at dksX0_write_0 4 rfl rfl)
theorem dX0_write_7 : decode cX0_write 7 = .ok (.arraylength, 1) := dk_190 (dk_at dksX0_write_0 7 rfl rfl)
theorem dX0_write_8 : decode cX0_write 8 = .ok (.if_icmp .ge 16, 3) := dk_162 0 16 (dk_at dksX0_write_0 8 rfl rfl)
theorem dX0_write_11 : decode cX0_write 11 = .ok (.aload_n 0, 1) := dk_42 (dk_at dksX0_write_0 11 rfl rfl)
theorem dX0_write_12 : decode cX0_write 12 = .ok (.getfield 13, 3) := dk_180 0 13 (dk_at dksX0_write_0 12 rfl rfl)
theorem dX0_write_15 : decode cX0_write 15 = .ok (.iload_n 1, 1) := dk_27 (dk_at dksX0_write_0 15 rfl rfl)
theorem dX0_write_16 : decode cX0_write 16 = .ok (.lconst 0, 1) := dk_9 (dk_at dksX0_write_0 16 rfl rfl)
theorem dX0_write_17 : decode cX0_write 17 = .ok (.lastore, 1) := dk_80 (dk_at dksX0_write_0 17 rfl rfl)
theorem dX0_write_18 : decode cX0_write 18 = .ok (.iinc 1 1, 3) := dk_132 1 1 (dk_at dksX0_write_0 18 rfl rfl)
theorem dX0_write_21 : decode cX0_write 21 = .ok (.goto (-19), 3) := dk_167 255 237 (dk_at dksX0_write_0 21 rfl rfl)
theorem dX0_write_24 : decode cX0_write 24 = .ok (.aload_n 0, 1) := dk_42 (dk_at dksX0_write_1 0 rfl rfl)
theorem dX0_write_25 : decode cX0_write 25 = .ok (.getfield 13, 3) := dk_180 0 13 (dk_at dksX0_write_1 1 rfl rfl)
theorem dX0_write_28 : decode cX0_write 28 = .ok (.aload_n 0, 1) := dk_42 (dk_at dksX0_write_1 4 rfl rfl)
theorem dX0_write_29 : decode cX0_write 29 = .ok (.getfield 9, 3) := dk_180 0 9 (dk_at dksX0_write_1 5 rfl rfl)
theorem dX0_write_32 : decode cX0_write 32 = .ok (.iconst 4, 1) := dk_7 (dk_at dksX0_write_1 8 rfl rfl)
theorem dX0_write_33 : decode cX0_write 33 = .ok (.iconst 3, 1) := dk_6 (dk_at dksX0_write_1 9 rfl rfl)
theorem dX0_write_34 : decode cX0_write 34 = .ok (.invokestatic 20, 3) := dk_184 0 20 (dk_at dksX0_write_1 10 rfl rfl)
theorem dX0_write_37 : decode cX0_write 37 = .ok (.aload_n 0, 1) := dk_42 (dk_at dksX0_write_1 13 rfl rfl)
theorem dX0_write_38 : decode cX0_write 38 = .ok (.iconst 0, 1) := dk_3 (dk_at dksX0_write_1 14 rfl rfl)
theorem dX0_write_39 : decode cX0_write 39 = .ok (.putfield 26, 3) := dk_181 0 26 (dk_at dksX0_write_1 15 rfl rfl)
theorem dX0_write_42 : decode cX0_write 42 = .ok (.return_, 1) := dk_177 (dk_at dksX0_write_1 18 rfl rfl)
abbrev cX0_harm : ByteArray := prog_1_method_4_code
def yX0_harm : MethodName := ⟨RX0, "harm", "(I)Z"⟩
def dkwX0_harm_2 : List UInt8 := [4, 96, 181, 0, 26, 4, 172]
abbrev dktX0_harm_2 : List UInt8 := dkwX0_harm_2 ++ []
def dkwX0_harm_1 : List UInt8 := [61, 42, 180, 0, 13, 28, 16, 6, 122, 92, 47, 10, 28, 16, 63, 126, 121, 131, 80, 42, 89, 180, 0, 26]
abbrev dktX0_harm_1 : List UInt8 := dkwX0_harm_1 ++ dktX0_harm_2
def dkwX0_harm_0 : List UInt8 := [42, 180, 0, 26, 16, 40, 161, 0, 5, 3, 172, 27, 18, 30, 126, 42, 180, 0, 13, 190, 16, 64, 104, 112]
abbrev dktX0_harm_0 : List UInt8 := dkwX0_harm_0 ++ dktX0_harm_1
theorem dksX0_harm_0 : cX0_harm.data.toList.drop 0 = dktX0_harm_0 := by decide +kernel
theorem dksX0_harm_1 : cX0_harm.data.toList.drop 24 = dktX0_harm_1 := dk_seg dksX0_harm_0 24 rfl rfl
theorem dksX0_harm_2 : cX0_harm.data.toList.drop 48 = dktX0_harm_2 := dk_seg dksX0_harm_1 24 rfl rfl
theorem dX0_harm_0 : decode cX0_harm 0 = .ok (.aload_n 0, 1) := dk_42 (dk_at dksX0_harm_0 0 rfl rfl)
theorem dX0_harm_1 : decode cX0_harm 1 = .ok (.getfield 26, 3) := dk_180 0 26 (dk_at dksX0_harm_0 1 rfl rfl)
theorem dX0_harm_4 : decode cX0_harm 4 = .ok (.bipush 40, 2) := dk_16 40 (dk_at dksX0_harm_0 4 rfl rfl)
theorem dX0_harm_6 : decode cX0_harm 6 = .ok (.if_icmp .lt 5, 3) := dk_161 0 5 (dk_at dksX0_harm_0 6 rfl rfl)
theorem dX0_harm_9 : decode cX0_harm 9 = .ok (.iconst 0, 1) := dk_3 (dk_at dksX0_harm_0 9 rfl rfl)
theorem dX0_harm_10 : decode cX0_harm 10 = .ok (.ireturn, 1) := dk_172 (dk_at dksX0_harm_0 10 rfl rfl)
theorem dX0_harm_11 : decode cX0_harm 11 = .ok (.iload_n 1, 1) := dk_27 (dk_at dksX0_harm_0 11 rfl rfl)
theorem dX0_harm_12 : decode cX0_harm 12 = .ok (.ldc 30, 2) := dk_18 30 (dk_at dksX0_harm_0 12 rfl rfl)
theorem dX0_harm_14 : decode cX0_harm 14 = .ok (.iand, 1) := dk_126 (dk_at dksX0_harm_0 14 rfl rfl)
theorem dX0_harm_15 : decode cX0_harm 15 = .ok (.aload_n 0, 1) := dk_42 (dk_at dksX0_harm_0 15 rfl rfl)
theorem dX0_harm_16 : decode cX0_harm 16 = .ok (.getfield 13, 3) := dk_180 0 13 (dk_at dksX0_harm_0 16 rfl rfl)
theorem dX0_harm_19 : decode cX0_harm 19 = .ok (.arraylength, 1) := dk_190 (dk_at dksX0_harm_0 19 rfl rfl)
theorem dX0_harm_20 : decode cX0_harm 20 = .ok (.bipush 64, 2) := dk_16 64 (dk_at dksX0_harm_0 20 rfl rfl)
theorem dX0_harm_22 : decode cX0_harm 22 = .ok (.imul, 1) := dk_104 (dk_at dksX0_harm_0 22 rfl rfl)
theorem dX0_harm_23 : decode cX0_harm 23 = .ok (.irem, 1) := dk_112 (dk_at dksX0_harm_0 23 rfl rfl)
theorem dX0_harm_24 : decode cX0_harm 24 = .ok (.istore_n 2, 1) := dk_61 (dk_at dksX0_harm_1 0 rfl rfl)
theorem dX0_harm_25 : decode cX0_harm 25 = .ok (.aload_n 0, 1) := dk_42 (dk_at dksX0_harm_1 1 rfl rfl)
theorem dX0_harm_26 : decode cX0_harm 26 = .ok (.getfield 13, 3) := dk_180 0 13 (dk_at dksX0_harm_1 2 rfl rfl)
theorem dX0_harm_29 : decode cX0_harm 29 = .ok (.iload_n 2, 1) := dk_28 (dk_at dksX0_harm_1 5 rfl rfl)
theorem dX0_harm_30 : decode cX0_harm 30 = .ok (.bipush 6, 2) := dk_16 6 (dk_at dksX0_harm_1 6 rfl rfl)
theorem dX0_harm_32 : decode cX0_harm 32 = .ok (.ishr, 1) := dk_122 (dk_at dksX0_harm_1 8 rfl rfl)
theorem dX0_harm_33 : decode cX0_harm 33 = .ok (.dup2, 1) := dk_92 (dk_at dksX0_harm_1 9 rfl rfl)
theorem dX0_harm_34 : decode cX0_harm 34 = .ok (.laload, 1) := dk_47 (dk_at dksX0_harm_1 10 rfl rfl)
theorem dX0_harm_35 : decode cX0_harm 35 = .ok (.lconst 1, 1) := dk_10 (dk_at dksX0_harm_1 11 rfl rfl)
theorem dX0_harm_36 : decode cX0_harm 36 = .ok (.iload_n 2, 1) := dk_28 (dk_at dksX0_harm_1 12 rfl rfl)
theorem dX0_harm_37 : decode cX0_harm 37 = .ok (.bipush 63, 2) := dk_16 63 (dk_at dksX0_harm_1 13 rfl rfl)
theorem dX0_harm_39 : decode cX0_harm 39 = .ok (.iand, 1) := dk_126 (dk_at dksX0_harm_1 15 rfl rfl)
theorem dX0_harm_40 : decode cX0_harm 40 = .ok (.lshl, 1) := dk_121 (dk_at dksX0_harm_1 16 rfl rfl)
theorem dX0_harm_41 : decode cX0_harm 41 = .ok (.lxor, 1) := dk_131 (dk_at dksX0_harm_1 17 rfl rfl)
theorem dX0_harm_42 : decode cX0_harm 42 = .ok (.lastore, 1) := dk_80 (dk_at dksX0_harm_1 18 rfl rfl)
theorem dX0_harm_43 : decode cX0_harm 43 = .ok (.aload_n 0, 1) := dk_42 (dk_at dksX0_harm_1 19 rfl rfl)
theorem dX0_harm_44 : decode cX0_harm 44 = .ok (.dup, 1) := dk_89 (dk_at dksX0_harm_1 20 rfl rfl)
theorem dX0_harm_45 : decode cX0_harm 45 = .ok (.getfield 26, 3) := dk_180 0 26 (dk_at dksX0_harm_1 21 rfl rfl)
theorem dX0_harm_48 : decode cX0_harm 48 = .ok (.iconst 1, 1) := dk_4 (dk_at dksX0_harm_2 0 rfl rfl)
theorem dX0_harm_49 : decode cX0_harm 49 = .ok (.iadd, 1) := dk_96 (dk_at dksX0_harm_2 1 rfl rfl)
theorem dX0_harm_50 : decode cX0_harm 50 = .ok (.putfield 26, 3) := dk_181 0 26 (dk_at dksX0_harm_2 2 rfl rfl)
theorem dX0_harm_53 : decode cX0_harm 53 = .ok (.iconst 1, 1) := dk_4 (dk_at dksX0_harm_2 5 rfl rfl)
theorem dX0_harm_54 : decode cX0_harm 54 = .ok (.ireturn, 1) := dk_172 (dk_at dksX0_harm_2 6 rfl rfl)
abbrev cX0_bit : ByteArray := prog_1_method_5_code
def yX0_bit : MethodName := ⟨RX0, "bit", "(I)I"⟩
def dkwX0_bit_1 : List UInt8 := [16, 63, 126, 125, 136, 4, 126, 172]
abbrev dktX0_bit_1 : List UInt8 := dkwX0_bit_1 ++ []
def dkwX0_bit_0 : List UInt8 := [27, 18, 30, 126, 42, 180, 0, 13, 190, 16, 64, 104, 112, 61, 42, 180, 0, 13, 28, 16, 6, 122, 47, 28]
abbrev dktX0_bit_0 : List UInt8 := dkwX0_bit_0 ++ dktX0_bit_1
theorem dksX0_bit_0 : cX0_bit.data.toList.drop 0 = dktX0_bit_0 := by decide +kernel
theorem dksX0_bit_1 : cX0_bit.data.toList.drop 24 = dktX0_bit_1 := dk_seg dksX0_bit_0 24 rfl rfl
theorem dX0_bit_0 : decode cX0_bit 0 = .ok (.iload_n 1, 1) := dk_27 (dk_at dksX0_bit_0 0 rfl rfl)
theorem dX0_bit_1 : decode cX0_bit 1 = .ok (.ldc 30, 2) := dk_18 30 (dk_at dksX0_bit_0 1 rfl rfl)
theorem dX0_bit_3 : decode cX0_bit 3 = .ok (.iand, 1) := dk_126 (dk_at dksX0_bit_0 3 rfl rfl)
theorem dX0_bit_4 : decode cX0_bit 4 = .ok (.aload_n 0, 1) := dk_42 (dk_at dksX0_bit_0 4 rfl rfl)
theorem dX0_bit_5 : decode cX0_bit 5 = .ok (.getfield 13, 3) := dk_180 0 13 (dk_at dksX0_bit_0 5 rfl rfl)
theorem dX0_bit_8 : decode cX0_bit 8 = .ok (.arraylength, 1) := dk_190 (dk_at dksX0_bit_0 8 rfl rfl)
theorem dX0_bit_9 : decode cX0_bit 9 = .ok (.bipush 64, 2) := dk_16 64 (dk_at dksX0_bit_0 9 rfl rfl)
theorem dX0_bit_11 : decode cX0_bit 11 = .ok (.imul, 1) := dk_104 (dk_at dksX0_bit_0 11 rfl rfl)
theorem dX0_bit_12 : decode cX0_bit 12 = .ok (.irem, 1) := dk_112 (dk_at dksX0_bit_0 12 rfl rfl)
theorem dX0_bit_13 : decode cX0_bit 13 = .ok (.istore_n 2, 1) := dk_61 (dk_at dksX0_bit_0 13 rfl rfl)
theorem dX0_bit_14 : decode cX0_bit 14 = .ok (.aload_n 0, 1) := dk_42 (dk_at dksX0_bit_0 14 rfl rfl)
theorem dX0_bit_15 : decode cX0_bit 15 = .ok (.getfield 13, 3) := dk_180 0 13 (dk_at dksX0_bit_0 15 rfl rfl)
theorem dX0_bit_18 : decode cX0_bit 18 = .ok (.iload_n 2, 1) := dk_28 (dk_at dksX0_bit_0 18 rfl rfl)
theorem dX0_bit_19 : decode cX0_bit 19 = .ok (.bipush 6, 2) := dk_16 6 (dk_at dksX0_bit_0 19 rfl rfl)
theorem dX0_bit_21 : decode cX0_bit 21 = .ok (.ishr, 1) := dk_122 (dk_at dksX0_bit_0 21 rfl rfl)
theorem dX0_bit_22 : decode cX0_bit 22 = .ok (.laload, 1) := dk_47 (dk_at dksX0_bit_0 22 rfl rfl)
theorem dX0_bit_23 : decode cX0_bit 23 = .ok (.iload_n 2, 1) := dk_28 (dk_at dksX0_bit_0 23 rfl rfl)
theorem dX0_bit_24 : decode cX0_bit 24 = .ok (.bipush 63, 2) := dk_16 63 (dk_at dksX0_bit_1 0 rfl rfl)
theorem dX0_bit_26 : decode cX0_bit 26 = .ok (.iand, 1) := dk_126 (dk_at dksX0_bit_1 2 rfl rfl)
theorem dX0_bit_27 : decode cX0_bit 27 = .ok (.lushr, 1) := dk_125 (dk_at dksX0_bit_1 3 rfl rfl)
theorem dX0_bit_28 : decode cX0_bit 28 = .ok (.l2i, 1) := dk_136 (dk_at dksX0_bit_1 4 rfl rfl)
theorem dX0_bit_29 : decode cX0_bit 29 = .ok (.iconst 1, 1) := dk_4 (dk_at dksX0_bit_1 5 rfl rfl)
theorem dX0_bit_30 : decode cX0_bit 30 = .ok (.iand, 1) := dk_126 (dk_at dksX0_bit_1 6 rfl rfl)
theorem dX0_bit_31 : decode cX0_bit 31 = .ok (.ireturn, 1) := dk_172 (dk_at dksX0_bit_1 7 rfl rfl)
abbrev cX0_read : ByteArray := prog_1_method_6_code
def yX0_read : MethodName := ⟨RX0, "read", "()I"⟩
def dkwX0_read_3 : List UInt8 := [167, 255, 232, 28, 172]
abbrev dktX0_read_3 : List UInt8 := dkwX0_read_3 ++ []
def dkwX0_read_2 : List UInt8 := [162, 0, 25, 28, 16, 8, 120, 42, 180, 0, 17, 29, 51, 17, 0, 255, 126, 128, 61, 132, 3, 1]
abbrev dktX0_read_2 : List UInt8 := dkwX0_read_2 ++ dktX0_read_3
def dkwX0_read_1 : List UInt8 := [80, 132, 2, 1, 167, 255, 238, 42, 180, 0, 17, 43, 7, 6, 184, 0, 31, 3, 61, 3, 62, 29, 7]
abbrev dktX0_read_1 : List UInt8 := dkwX0_read_1 ++ dktX0_read_2
def dkwX0_read_0 : List UInt8 := [42, 180, 0, 13, 190, 188, 11, 76, 3, 61, 28, 43, 190, 162, 0, 18, 43, 28, 42, 180, 0, 13, 28, 47]
abbrev dktX0_read_0 : List UInt8 := dkwX0_read_0 ++ dktX0_read_1
theorem dksX0_read_0 : cX0_read.data.toList.drop 0 = dktX0_read_0 := by decide +kernel
theorem dksX0_read_1 : cX0_read.data.toList.drop 24 = dktX0_read_1 := dk_seg dksX0_read_0 24 rfl rfl
theorem dksX0_read_2 : cX0_read.data.toList.drop 47 = dktX0_read_2 := dk_seg dksX0_read_1 23 rfl rfl
theorem dksX0_read_3 : cX0_read.data.toList.drop 69 = dktX0_read_3 := dk_seg dksX0_read_2 22 rfl rfl
theorem dX0_read_0 : decode cX0_read 0 = .ok (.aload_n 0, 1) := dk_42 (dk_at dksX0_read_0 0 rfl rfl)
theorem dX0_read_1 : decode cX0_read 1 = .ok (.getfield 13, 3) := dk_180 0 13 (dk_at dksX0_read_0 1 rfl rfl)
theorem dX0_read_4 : decode cX0_read 4 = .ok (.arraylength, 1) := dk_190 (dk_at dksX0_read_0 4 rfl rfl)
theorem dX0_read_5 : decode cX0_read 5 = .ok (.newarray .long, 2) := dk_188_11 (dk_at dksX0_read_0 5 rfl rfl)
theorem dX0_read_7 : decode cX0_read 7 = .ok (.astore_n 1, 1) := dk_76 (dk_at dksX0_read_0 7 rfl rfl)
theorem dX0_read_8 : decode cX0_read 8 = .ok (.iconst 0, 1) := dk_3 (dk_at dksX0_read_0 8 rfl rfl)
theorem dX0_read_9 : decode cX0_read 9 = .ok (.istore_n 2, 1) := dk_61 (dk_at dksX0_read_0 9 rfl rfl)
theorem dX0_read_10 : decode cX0_read 10 = .ok (.iload_n 2, 1) := dk_28 (dk_at dksX0_read_0 10 rfl rfl)
theorem dX0_read_11 : decode cX0_read 11 = .ok (.aload_n 1, 1) := dk_43 (dk_at dksX0_read_0 11 rfl rfl)
theorem dX0_read_12 : decode cX0_read 12 = .ok (.arraylength, 1) := dk_190 (dk_at dksX0_read_0 12 rfl rfl)
theorem dX0_read_13 : decode cX0_read 13 = .ok (.if_icmp .ge 18, 3) := dk_162 0 18 (dk_at dksX0_read_0 13 rfl rfl)
theorem dX0_read_16 : decode cX0_read 16 = .ok (.aload_n 1, 1) := dk_43 (dk_at dksX0_read_0 16 rfl rfl)
theorem dX0_read_17 : decode cX0_read 17 = .ok (.iload_n 2, 1) := dk_28 (dk_at dksX0_read_0 17 rfl rfl)
theorem dX0_read_18 : decode cX0_read 18 = .ok (.aload_n 0, 1) := dk_42 (dk_at dksX0_read_0 18 rfl rfl)
theorem dX0_read_19 : decode cX0_read 19 = .ok (.getfield 13, 3) := dk_180 0 13 (dk_at dksX0_read_0 19 rfl rfl)
theorem dX0_read_22 : decode cX0_read 22 = .ok (.iload_n 2, 1) := dk_28 (dk_at dksX0_read_0 22 rfl rfl)
theorem dX0_read_23 : decode cX0_read 23 = .ok (.laload, 1) := dk_47 (dk_at dksX0_read_0 23 rfl rfl)
theorem dX0_read_24 : decode cX0_read 24 = .ok (.lastore, 1) := dk_80 (dk_at dksX0_read_1 0 rfl rfl)
theorem dX0_read_25 : decode cX0_read 25 = .ok (.iinc 2 1, 3) := dk_132 2 1 (dk_at dksX0_read_1 1 rfl rfl)
theorem dX0_read_28 : decode cX0_read 28 = .ok (.goto (-18), 3) := dk_167 255 238 (dk_at dksX0_read_1 4 rfl rfl)
theorem dX0_read_31 : decode cX0_read 31 = .ok (.aload_n 0, 1) := dk_42 (dk_at dksX0_read_1 7 rfl rfl)
theorem dX0_read_32 : decode cX0_read 32 = .ok (.getfield 17, 3) := dk_180 0 17 (dk_at dksX0_read_1 8 rfl rfl)
theorem dX0_read_35 : decode cX0_read 35 = .ok (.aload_n 1, 1) := dk_43 (dk_at dksX0_read_1 11 rfl rfl)
theorem dX0_read_36 : decode cX0_read 36 = .ok (.iconst 4, 1) := dk_7 (dk_at dksX0_read_1 12 rfl rfl)
theorem dX0_read_37 : decode cX0_read 37 = .ok (.iconst 3, 1) := dk_6 (dk_at dksX0_read_1 13 rfl rfl)
theorem dX0_read_38 : decode cX0_read 38 = .ok (.invokestatic 31, 3) := dk_184 0 31 (dk_at dksX0_read_1 14 rfl rfl)
theorem dX0_read_41 : decode cX0_read 41 = .ok (.iconst 0, 1) := dk_3 (dk_at dksX0_read_1 17 rfl rfl)
theorem dX0_read_42 : decode cX0_read 42 = .ok (.istore_n 2, 1) := dk_61 (dk_at dksX0_read_1 18 rfl rfl)
theorem dX0_read_43 : decode cX0_read 43 = .ok (.iconst 0, 1) := dk_3 (dk_at dksX0_read_1 19 rfl rfl)
theorem dX0_read_44 : decode cX0_read 44 = .ok (.istore_n 3, 1) := dk_62 (dk_at dksX0_read_1 20 rfl rfl)
theorem dX0_read_45 : decode cX0_read 45 = .ok (.iload_n 3, 1) := dk_29 (dk_at dksX0_read_1 21 rfl rfl)
theorem dX0_read_46 : decode cX0_read 46 = .ok (.iconst 4, 1) := dk_7 (dk_at dksX0_read_1 22 rfl rfl)
theorem dX0_read_47 : decode cX0_read 47 = .ok (.if_icmp .ge 25, 3) := dk_162 0 25 (dk_at dksX0_read_2 0 rfl rfl)
theorem dX0_read_50 : decode cX0_read 50 = .ok (.iload_n 2, 1) := dk_28 (dk_at dksX0_read_2 3 rfl rfl)
theorem dX0_read_51 : decode cX0_read 51 = .ok (.bipush 8, 2) := dk_16 8 (dk_at dksX0_read_2 4 rfl rfl)
theorem dX0_read_53 : decode cX0_read 53 = .ok (.ishl, 1) := dk_120 (dk_at dksX0_read_2 6 rfl rfl)
theorem dX0_read_54 : decode cX0_read 54 = .ok (.aload_n 0, 1) := dk_42 (dk_at dksX0_read_2 7 rfl rfl)
theorem dX0_read_55 : decode cX0_read 55 = .ok (.getfield 17, 3) := dk_180 0 17 (dk_at dksX0_read_2 8 rfl rfl)
theorem dX0_read_58 : decode cX0_read 58 = .ok (.iload_n 3, 1) := dk_29 (dk_at dksX0_read_2 11 rfl rfl)
theorem dX0_read_59 : decode cX0_read 59 = .ok (.baload, 1) := dk_51 (dk_at dksX0_read_2 12 rfl rfl)
theorem dX0_read_60 : decode cX0_read 60 = .ok (.sipush 255, 3) := dk_17 0 255 (dk_at dksX0_read_2 13 rfl rfl)
theorem dX0_read_63 : decode cX0_read 63 = .ok (.iand, 1) := dk_126 (dk_at dksX0_read_2 16 rfl rfl)
theorem dX0_read_64 : decode cX0_read 64 = .ok (.ior, 1) := dk_128 (dk_at dksX0_read_2 17 rfl rfl)
theorem dX0_read_65 : decode cX0_read 65 = .ok (.istore_n 2, 1) := dk_61 (dk_at dksX0_read_2 18 rfl rfl)
theorem dX0_read_66 : decode cX0_read 66 = .ok (.iinc 3 1, 3) := dk_132 3 1 (dk_at dksX0_read_2 19 rfl rfl)
theorem dX0_read_69 : decode cX0_read 69 = .ok (.goto (-24), 3) := dk_167 255 232 (dk_at dksX0_read_3 0 rfl rfl)
theorem dX0_read_72 : decode cX0_read 72 = .ok (.iload_n 2, 1) := dk_28 (dk_at dksX0_read_3 3 rfl rfl)
theorem dX0_read_73 : decode cX0_read 73 = .ok (.ireturn, 1) := dk_172 (dk_at dksX0_read_3 4 rfl rfl)
abbrev cX0_letter_2 : ByteArray := prog_1_method_7_code
def yX0_letter_2 : MethodName := ⟨RX0, "letter", "(I)I"⟩
def dkwX0_letter_2_0 : List UInt8 := [42, 180, 0, 9, 27, 6, 126, 51, 17, 0, 255, 126, 172]
abbrev dktX0_letter_2_0 : List UInt8 := dkwX0_letter_2_0 ++ []
theorem dksX0_letter_2_0 : cX0_letter_2.data.toList.drop 0 = dktX0_letter_2_0 := by decide +kernel
theorem dX0_letter_2_0 : decode cX0_letter_2 0 = .ok (.aload_n 0, 1) := dk_42 (dk_at dksX0_letter_2_0 0 rfl rfl)
theorem dX0_letter_2_1 : decode cX0_letter_2 1 = .ok (.getfield 9, 3) := dk_180 0 9 (dk_at dksX0_letter_2_0 1 rfl rfl)
theorem dX0_letter_2_4 : decode cX0_letter_2 4 = .ok (.iload_n 1, 1) := dk_27 (dk_at dksX0_letter_2_0 4 rfl rfl)
theorem dX0_letter_2_5 : decode cX0_letter_2 5 = .ok (.iconst 3, 1) := dk_6 (dk_at dksX0_letter_2_0 5 rfl rfl)
theorem dX0_letter_2_6 : decode cX0_letter_2 6 = .ok (.iand, 1) := dk_126 (dk_at dksX0_letter_2_0 6 rfl rfl)
theorem dX0_letter_2_7 : decode cX0_letter_2 7 = .ok (.baload, 1) := dk_51 (dk_at dksX0_letter_2_0 7 rfl rfl)
theorem dX0_letter_2_8 : decode cX0_letter_2 8 = .ok (.sipush 255, 3) := dk_17 0 255 (dk_at dksX0_letter_2_0 8 rfl rfl)
theorem dX0_letter_2_11 : decode cX0_letter_2 11 = .ok (.iand, 1) := dk_126 (dk_at dksX0_letter_2_0 11 rfl rfl)
theorem dX0_letter_2_12 : decode cX0_letter_2 12 = .ok (.ireturn, 1) := dk_172 (dk_at dksX0_letter_2_0 12 rfl rfl)
theorem q2 : (Jvm.Cond.initialized "InnerCode") ∈ lw_all := lw_g (lw_at lw_m0 1 rfl) rfl
theorem q8 : (Jvm.Cond.instantiable "InnerCode" (4 : Nat)) ∈ lw_all := lw_g (lw_at lw_m0 7 rfl) rfl
theorem q10 : (Jvm.Cond.instanceMethod ({ cls := "InnerCode", name := "<init>", desc := "()V" } : Jvm.MethodName)) ∈ lw_all := lw_g (lw_at lw_m0 9 rfl) rfl
theorem q11 : (Jvm.Cond.code ({ cls := "InnerCode", name := "<init>", desc := "()V" } : Jvm.MethodName) prog_1_method_1_code (1 : Nat) (Option.none : Option Jvm.ClassFile.FieldType)) ∈ lw_all := lw_g (lw_at lw_m0 10 rfl) rfl
theorem q12 : (Jvm.Cond.methodLink "InnerCode" (1 : Nat) ({ cls := "java/lang/Object", name := "<init>", desc := "()V" } : Jvm.MethodName)) ∈ lw_all := lw_g (lw_at lw_m0 11 rfl) rfl
theorem q15 : (Jvm.Cond.fieldLink "InnerCode" (9 : Nat) "InnerCode" "letters" "[B") ∈ lw_all := lw_g (lw_at lw_m0 14 rfl) rfl
theorem q16 : (Jvm.Cond.fieldLink "InnerCode" (13 : Nat) "InnerCode" "word" "[J") ∈ lw_all := lw_g (lw_at lw_m0 15 rfl) rfl
theorem q17 : (Jvm.Cond.fieldLink "InnerCode" (17 : Nat) "InnerCode" "read" "[B") ∈ lw_all := lw_g (lw_at lw_m0 16 rfl) rfl
theorem q18 : (Jvm.Cond.fieldLink "InnerCode" (26 : Nat) "InnerCode" "harmed" "I") ∈ lw_all := lw_g (lw_at lw_m0 17 rfl) rfl
theorem q19 : (Jvm.Cond.laysFinal "InnerCode" "InnerCode" "letters" "[B") ∈ lw_all := lw_g (lw_at lw_m0 18 rfl) rfl
theorem q20 : (Jvm.Cond.soleField "InnerCode" "letters") ∈ lw_all := lw_g (lw_at lw_m0 19 rfl) rfl
theorem q21 : (Jvm.Cond.laysFinal "InnerCode" "InnerCode" "word" "[J") ∈ lw_all := lw_g (lw_at lw_m0 20 rfl) rfl
theorem q22 : (Jvm.Cond.soleField "InnerCode" "word") ∈ lw_all := lw_g (lw_at lw_m0 21 rfl) rfl
theorem q23 : (Jvm.Cond.laysFinal "InnerCode" "InnerCode" "read" "[B") ∈ lw_all := lw_g (lw_at lw_m0 22 rfl) rfl
theorem q24 : (Jvm.Cond.soleField "InnerCode" "read") ∈ lw_all := lw_g (lw_at lw_m0 23 rfl) rfl
theorem q25 : (Jvm.Cond.lays "InnerCode" "InnerCode" "harmed" "I") ∈ lw_all := lw_g (lw_at lw_m0 24 rfl) rfl
theorem q26 : (Jvm.Cond.soleField "InnerCode" "harmed") ∈ lw_all := lw_g (lw_at lw_m0 25 rfl) rfl
theorem q27 : (Jvm.Cond.superclass "InnerCode" "java/lang/Object") ∈ lw_all := lw_g (lw_at lw_m0 26 rfl) rfl
theorem q31 : (Jvm.Cond.instanceMethod ({ cls := "InnerCode", name := "letter", desc := "(II)V" } : Jvm.MethodName)) ∈ lw_all := lw_g (lw_at lw_m0 30 rfl) rfl
theorem q32 : (Jvm.Cond.selects "InnerCode" ({ cls := "InnerCode", name := "letter", desc := "(II)V" } : Jvm.MethodName) ({ cls := "InnerCode", name := "letter", desc := "(II)V" } : Jvm.MethodName)) ∈ lw_all := lw_g (lw_at lw_m0 31 rfl) rfl
theorem q33 : (Jvm.Cond.code ({ cls := "InnerCode", name := "letter", desc := "(II)V" } : Jvm.MethodName) prog_1_method_2_code (3 : Nat) (Option.none : Option Jvm.ClassFile.FieldType)) ∈ lw_all := lw_g (lw_at lw_m0 32 rfl) rfl
theorem q35 : (Jvm.Cond.instanceMethod ({ cls := "InnerCode", name := "write", desc := "()V" } : Jvm.MethodName)) ∈ lw_all := lw_g (lw_at lw_m0 34 rfl) rfl
theorem q36 : (Jvm.Cond.selects "InnerCode" ({ cls := "InnerCode", name := "write", desc := "()V" } : Jvm.MethodName) ({ cls := "InnerCode", name := "write", desc := "()V" } : Jvm.MethodName)) ∈ lw_all := lw_g (lw_at lw_m0 35 rfl) rfl
theorem q37 : (Jvm.Cond.code ({ cls := "InnerCode", name := "write", desc := "()V" } : Jvm.MethodName) prog_1_method_3_code (2 : Nat) (Option.none : Option Jvm.ClassFile.FieldType)) ∈ lw_all := lw_g (lw_at lw_m0 36 rfl) rfl
theorem q38 : (Jvm.Cond.methodLink "InnerCode" (20 : Nat) ({ cls := "ReedMuller", name := "encode", desc := "([J[BII)V" } : Jvm.MethodName)) ∈ lw_all := lw_g (lw_at lw_m0 37 rfl) rfl
theorem q55 : (Jvm.Cond.instanceMethod ({ cls := "InnerCode", name := "harm", desc := "(I)Z" } : Jvm.MethodName)) ∈ lw_all := lw_g (lw_at lw_m0 54 rfl) rfl
theorem q56 : (Jvm.Cond.selects "InnerCode" ({ cls := "InnerCode", name := "harm", desc := "(I)Z" } : Jvm.MethodName) ({ cls := "InnerCode", name := "harm", desc := "(I)Z" } : Jvm.MethodName)) ∈ lw_all := lw_g (lw_at lw_m0 55 rfl) rfl
theorem q57 : (Jvm.Cond.code ({ cls := "InnerCode", name := "harm", desc := "(I)Z" } : Jvm.MethodName) prog_1_method_4_code (3 : Nat) (Option.some Jvm.ClassFile.FieldType.boolean)) ∈ lw_all := lw_g (lw_at lw_m0 56 rfl) rfl
theorem q58 : (Jvm.Cond.constant "InnerCode" (30 : Nat) (2147483647 : Int32)) ∈ lw_all := lw_g (lw_at lw_m0 57 rfl) rfl
theorem q60 : (Jvm.Cond.instanceMethod ({ cls := "InnerCode", name := "bit", desc := "(I)I" } : Jvm.MethodName)) ∈ lw_all := lw_g (lw_at lw_m0 59 rfl) rfl
theorem q61 : (Jvm.Cond.selects "InnerCode" ({ cls := "InnerCode", name := "bit", desc := "(I)I" } : Jvm.MethodName) ({ cls := "InnerCode", name := "bit", desc := "(I)I" } : Jvm.MethodName)) ∈ lw_all := lw_g (lw_at lw_m0 60 rfl) rfl
theorem q62 : (Jvm.Cond.code ({ cls := "InnerCode", name := "bit", desc := "(I)I" } : Jvm.MethodName) prog_1_method_5_code (3 : Nat) (Option.some Jvm.ClassFile.FieldType.int)) ∈ lw_all := lw_g (lw_at lw_m0 61 rfl) rfl
theorem q64 : (Jvm.Cond.instanceMethod ({ cls := "InnerCode", name := "read", desc := "()I" } : Jvm.MethodName)) ∈ lw_all := lw_g (lw_at lw_m0 63 rfl) rfl
theorem q65 : (Jvm.Cond.selects "InnerCode" ({ cls := "InnerCode", name := "read", desc := "()I" } : Jvm.MethodName) ({ cls := "InnerCode", name := "read", desc := "()I" } : Jvm.MethodName)) ∈ lw_all := lw_g (lw_at lw_m0 64 rfl) rfl
theorem q66 : (Jvm.Cond.code ({ cls := "InnerCode", name := "read", desc := "()I" } : Jvm.MethodName) prog_1_method_6_code (4 : Nat) (Option.some Jvm.ClassFile.FieldType.int)) ∈ lw_all := lw_g (lw_at lw_m0 65 rfl) rfl
theorem q67 : (Jvm.Cond.methodLink "InnerCode" (31 : Nat) ({ cls := "ReedMuller", name := "decode", desc := "([B[JII)V" } : Jvm.MethodName)) ∈ lw_all := lw_g (lw_at lw_m0 66 rfl) rfl
theorem q86 : (Jvm.Cond.instanceMethod ({ cls := "InnerCode", name := "letter", desc := "(I)I" } : Jvm.MethodName)) ∈ lw_all := lw_g (lw_at lw_m0 85 rfl) rfl
theorem q87 : (Jvm.Cond.selects "InnerCode" ({ cls := "InnerCode", name := "letter", desc := "(I)I" } : Jvm.MethodName) ({ cls := "InnerCode", name := "letter", desc := "(I)I" } : Jvm.MethodName)) ∈ lw_all := lw_g (lw_at lw_m0 86 rfl) rfl
theorem q88 : (Jvm.Cond.code ({ cls := "InnerCode", name := "letter", desc := "(I)I" } : Jvm.MethodName) prog_1_method_7_code (2 : Nat) (Option.some Jvm.ClassFile.FieldType.int)) ∈ lw_all := lw_g (lw_at lw_m0 87 rfl) rfl
theorem in_X0 : ∀ w ∈ wsX00, w ∈ lw_all := lw_in wsX00 [19, 21, 23, 25] (by decide +kernel) (by decide +kernel)
/-! Utils -/
set_option maxRecDepth 100000
def RX3 : String := "Utils"
abbrev cX3_fromLongArrayToByte32Array : ByteArray := prog_5_method_2_code
def yX3_fromLongArrayToByte32Array : MethodName := ⟨RX3, "fromLongArrayToByte32Array", "([I[J)V"⟩
def dkwX3_fromLongArrayToByte32Array_1 : List UInt8 := [28, 47, 16, 32, 123, 136, 79, 132, 2, 1, 167, 255, 224, 177]
abbrev dktX3_fromLongArrayToByte32Array_1 : List UInt8 := dkwX3_fromLongArrayToByte32Array_1 ++ []
def dkwX3_fromLongArrayToByte32Array_0 : List UInt8 := [3, 61, 28, 43, 190, 159, 0, 32, 42, 5, 28, 104, 43, 28, 47, 136, 79, 42, 5, 28, 104, 4, 96, 43]
abbrev dktX3_fromLongArrayToByte32Array_0 : List UInt8 := dkwX3_fromLongArrayToByte32Array_0 ++ dktX3_fromLongArrayToByte32Array_1
theorem dksX3_fromLongArrayToByte32Array_0 : cX3_fromLongArrayToByte32Array.data.toList.drop 0 = dktX3_fromLongArrayToByte32Array_0 := by decide +kernel
theorem dksX3_fromLongArrayToByte32Array_1 : cX3_fromLongArrayToByte32Array.data.toList.drop 24 = dktX3_fromLongArrayToByte32Array_1 := dk_seg dksX3_fromLongArrayToByte32Array_0 24 rfl rfl
theorem dX3_fromLongArrayToByte32Array_0 : decode cX3_fromLongArrayToByte32Array 0 = .ok (.iconst 0, 1) := dk_3 (dk_at dksX3_fromLongArrayToByte32Array_0 0 rfl rfl)
theorem dX3_fromLongArrayToByte32Array_1 : decode cX3_fromLongArrayToByte32Array 1 = .ok (.istore_n 2, 1) := dk_61 (dk_at dksX3_fromLongArrayToByte32Array_0 1 rfl rfl)
theorem dX3_fromLongArrayToByte32Array_2 : decode cX3_fromLongArrayToByte32Array 2 = .ok (.iload_n 2, 1) := dk_28 (dk_at dksX3_fromLongArrayToByte32Array_0 2 rfl rfl)
theorem dX3_fromLongArrayToByte32Array_3 : decode cX3_fromLongArrayToByte32Array 3 = .ok (.aload_n 1, 1) := dk_43 (dk_at dksX3_fromLongArrayToByte32Array_0 3 rfl rfl)
theorem dX3_fromLongArrayToByte32Array_4 : decode cX3_fromLongArrayToByte32Array 4 = .ok (.arraylength, 1) := dk_190 (dk_at dksX3_fromLongArrayToByte32Array_0 4 rfl rfl)
theorem dX3_fromLongArrayToByte32Array_5 : decode cX3_fromLongArrayToByte32Array 5 = .ok (.if_icmp .eq 32, 3) := dk_159 0 32 (dk_at dksX3_fromLongArrayToByte32Array_0 5 rfl rfl)
theorem dX3_fromLongArrayToByte32Array_8 : decode cX3_fromLongArrayToByte32Array 8 = .ok (.aload_n 0, 1) := dk_42 (dk_at dksX3_fromLongArrayToByte32Array_0 8 rfl rfl)
theorem dX3_fromLongArrayToByte32Array_9 : decode cX3_fromLongArrayToByte32Array 9 = .ok (.iconst 2, 1) := dk_5 (dk_at dksX3_fromLongArrayToByte32Array_0 9 rfl rfl)
theorem dX3_fromLongArrayToByte32Array_10 : decode cX3_fromLongArrayToByte32Array 10 = .ok (.iload_n 2, 1) := dk_28 (dk_at dksX3_fromLongArrayToByte32Array_0 10 rfl rfl)
theorem dX3_fromLongArrayToByte32Array_11 : decode cX3_fromLongArrayToByte32Array 11 = .ok (.imul, 1) := dk_104 (dk_at dksX3_fromLongArrayToByte32Array_0 11 rfl rfl)
theorem dX3_fromLongArrayToByte32Array_12 : decode cX3_fromLongArrayToByte32Array 12 = .ok (.aload_n 1, 1) := dk_43 (dk_at dksX3_fromLongArrayToByte32Array_0 12 rfl rfl)
theorem dX3_fromLongArrayToByte32Array_13 : decode cX3_fromLongArrayToByte32Array 13 = .ok (.iload_n 2, 1) := dk_28 (dk_at dksX3_fromLongArrayToByte32Array_0 13 rfl rfl)
theorem dX3_fromLongArrayToByte32Array_14 : decode cX3_fromLongArrayToByte32Array 14 = .ok (.laload, 1) := dk_47 (dk_at dksX3_fromLongArrayToByte32Array_0 14 rfl rfl)
theorem dX3_fromLongArrayToByte32Array_15 : decode cX3_fromLongArrayToByte32Array 15 = .ok (.l2i, 1) := dk_136 (dk_at dksX3_fromLongArrayToByte32Array_0 15 rfl rfl)
theorem dX3_fromLongArrayToByte32Array_16 : decode cX3_fromLongArrayToByte32Array 16 = .ok (.iastore, 1) := dk_79 (dk_at dksX3_fromLongArrayToByte32Array_0 16 rfl rfl)
theorem dX3_fromLongArrayToByte32Array_17 : decode cX3_fromLongArrayToByte32Array 17 = .ok (.aload_n 0, 1) := dk_42 (dk_at dksX3_fromLongArrayToByte32Array_0 17 rfl rfl)
theorem dX3_fromLongArrayToByte32Array_18 : decode cX3_fromLongArrayToByte32Array 18 = .ok (.iconst 2, 1) := dk_5 (dk_at dksX3_fromLongArrayToByte32Array_0 18 rfl rfl)
theorem dX3_fromLongArrayToByte32Array_19 : decode cX3_fromLongArrayToByte32Array 19 = .ok (.iload_n 2, 1) := dk_28 (dk_at dksX3_fromLongArrayToByte32Array_0 19 rfl rfl)
theorem dX3_fromLongArrayToByte32Array_20 : decode cX3_fromLongArrayToByte32Array 20 = .ok (.imul, 1) := dk_104 (dk_at dksX3_fromLongArrayToByte32Array_0 20 rfl rfl)
theorem dX3_fromLongArrayToByte32Array_21 : decode cX3_fromLongArrayToByte32Array 21 = .ok (.iconst 1, 1) := dk_4 (dk_at dksX3_fromLongArrayToByte32Array_0 21 rfl rfl)
theorem dX3_fromLongArrayToByte32Array_22 : decode cX3_fromLongArrayToByte32Array 22 = .ok (.iadd, 1) := dk_96 (dk_at dksX3_fromLongArrayToByte32Array_0 22 rfl rfl)
theorem dX3_fromLongArrayToByte32Array_23 : decode cX3_fromLongArrayToByte32Array 23 = .ok (.aload_n 1, 1) := dk_43 (dk_at dksX3_fromLongArrayToByte32Array_0 23 rfl rfl)
theorem dX3_fromLongArrayToByte32Array_24 : decode cX3_fromLongArrayToByte32Array 24 = .ok (.iload_n 2, 1) := dk_28 (dk_at dksX3_fromLongArrayToByte32Array_1 0 rfl rfl)
theorem dX3_fromLongArrayToByte32Array_25 : decode cX3_fromLongArrayToByte32Array 25 = .ok (.laload, 1) := dk_47 (dk_at dksX3_fromLongArrayToByte32Array_1 1 rfl rfl)
theorem dX3_fromLongArrayToByte32Array_26 : decode cX3_fromLongArrayToByte32Array 26 = .ok (.bipush 32, 2) := dk_16 32 (dk_at dksX3_fromLongArrayToByte32Array_1 2 rfl rfl)
theorem dX3_fromLongArrayToByte32Array_28 : decode cX3_fromLongArrayToByte32Array 28 = .ok (.lshr, 1) := dk_123 (dk_at dksX3_fromLongArrayToByte32Array_1 4 rfl rfl)
theorem dX3_fromLongArrayToByte32Array_29 : decode cX3_fromLongArrayToByte32Array 29 = .ok (.l2i, 1) := dk_136 (dk_at dksX3_fromLongArrayToByte32Array_1 5 rfl rfl)
theorem dX3_fromLongArrayToByte32Array_30 : decode cX3_fromLongArrayToByte32Array 30 = .ok (.iastore, 1) := dk_79 (dk_at dksX3_fromLongArrayToByte32Array_1 6 rfl rfl)
theorem dX3_fromLongArrayToByte32Array_31 : decode cX3_fromLongArrayToByte32Array 31 = .ok (.iinc 2 1, 3) := dk_132 2 1 (dk_at dksX3_fromLongArrayToByte32Array_1 7 rfl rfl)
theorem dX3_fromLongArrayToByte32Array_34 : decode cX3_fromLongArrayToByte32Array 34 = .ok (.goto (-32), 3) := dk_167 255 224 (dk_at dksX3_fromLongArrayToByte32Array_1 10 rfl rfl)
theorem dX3_fromLongArrayToByte32Array_37 : decode cX3_fromLongArrayToByte32Array 37 = .ok (.return_, 1) := dk_177 (dk_at dksX3_fromLongArrayToByte32Array_1 13 rfl rfl)
theorem q5 : (Jvm.Cond.initialized "Utils") ∈ lw_all := lw_g (lw_at lw_m0 4 rfl) rfl
theorem q71 : (Jvm.Cond.static ({ cls := "Utils", name := "fromLongArrayToByte32Array", desc := "([I[J)V" } : Jvm.MethodName)) ∈ lw_all := lw_g (lw_at lw_m0 70 rfl) rfl
theorem q72 : (Jvm.Cond.code ({ cls := "Utils", name := "fromLongArrayToByte32Array", desc := "([I[J)V" } : Jvm.MethodName) prog_5_method_2_code (3 : Nat) (Option.none : Option Jvm.ClassFile.FieldType)) ∈ lw_all := lw_g (lw_at lw_m0 71 rfl) rfl
/-! the law's own entry -/
set_option maxRecDepth 100000
abbrev cL_law : ByteArray := code
def dkwL_law_8 : List UInt8 := [182, 0, 39, 159, 0, 5, 3, 172, 132, 3, 6, 167, 255, 75, 4, 172]
abbrev dktL_law_8 : List UInt8 := dkwL_law_8 ++ []
def dkwL_law_7 : List UInt8 := [182, 0, 36, 159, 0, 28, 3, 172, 43, 42, 29, 4, 96, 46, 182, 0, 37, 44, 42, 29, 4, 96, 46]
abbrev dktL_law_7 : List UInt8 := dkwL_law_7 ++ dktL_law_8
def dkwL_law_6 : List UInt8 := [182, 0, 27, 44, 42, 29, 4, 96, 46, 182, 0, 31, 159, 0, 41, 3, 172, 43, 182, 0, 32, 44]
abbrev dktL_law_6 : List UInt8 := dkwL_law_6 ++ dktL_law_7
def dkwL_law_5 : List UInt8 := [182, 0, 22, 44, 42, 29, 4, 96, 46, 182, 0, 26, 159, 0, 64, 3, 172, 43, 42, 29, 4, 96, 46]
abbrev dktL_law_5 : List UInt8 := dkwL_law_5 ++ dktL_law_6
def dkwL_law_4 : List UInt8 := [46, 182, 0, 17, 167, 0, 96, 43, 182, 0, 18, 44, 182, 0, 21, 167, 0, 85, 43, 42, 29, 4, 96, 46]
abbrev dktL_law_4 : List UInt8 := dkwL_law_4 ++ dktL_law_5
def dkwL_law_3 : List UInt8 := [43, 42, 29, 4, 96, 46, 42, 29, 5, 96, 46, 182, 0, 13, 44, 42, 29, 4, 96, 46, 42, 29, 5, 96]
abbrev dktL_law_3 : List UInt8 := dkwL_law_3 ++ dktL_law_4
def dkwL_law_2 : List UInt8 := [170, 0, 0, 0, 0, 0, 163, 0, 0, 0, 0, 0, 0, 0, 5, 0, 0, 0, 39, 0, 0, 0, 70, 0, 0, 0, 81, 0, 0, 0, 104, 0, 0, 0, 127, 0, 0, 0, 140]
abbrev dktL_law_2 : List UInt8 := dkwL_law_2 ++ dktL_law_3
def dkwL_law_1 : List UInt8 := [163, 0, 178, 42, 29, 46, 16, 7, 126]
abbrev dktL_law_1 : List UInt8 := dkwL_law_1 ++ dktL_law_2
def dkwL_law_0 : List UInt8 := [187, 0, 7, 89, 183, 0, 9, 76, 187, 0, 10, 89, 183, 0, 12, 77, 3, 62, 29, 42, 190, 16, 6, 100]
abbrev dktL_law_0 : List UInt8 := dkwL_law_0 ++ dktL_law_1
theorem dksL_law_0 : cL_law.data.toList.drop 0 = dktL_law_0 := by decide +kernel
theorem dksL_law_1 : cL_law.data.toList.drop 24 = dktL_law_1 := dk_seg dksL_law_0 24 rfl rfl
theorem dksL_law_2 : cL_law.data.toList.drop 33 = dktL_law_2 := dk_seg dksL_law_1 9 rfl rfl
theorem dksL_law_3 : cL_law.data.toList.drop 72 = dktL_law_3 := dk_seg dksL_law_2 39 rfl rfl
theorem dksL_law_4 : cL_law.data.toList.drop 96 = dktL_law_4 := dk_seg dksL_law_3 24 rfl rfl
theorem dksL_law_5 : cL_law.data.toList.drop 120 = dktL_law_5 := dk_seg dksL_law_4 24 rfl rfl
theorem dksL_law_6 : cL_law.data.toList.drop 143 = dktL_law_6 := dk_seg dksL_law_5 23 rfl rfl
theorem dksL_law_7 : cL_law.data.toList.drop 165 = dktL_law_7 := dk_seg dksL_law_6 22 rfl rfl
theorem dksL_law_8 : cL_law.data.toList.drop 188 = dktL_law_8 := dk_seg dksL_law_7 23 rfl rfl
theorem dL_law_0 : decode cL_law 0 = .ok (.new 7, 3) := dk_187 0 7 (dk_at dksL_law_0 0 rfl rfl)
theorem dL_law_3 : decode cL_law 3 = .ok (.dup, 1) := dk_89 (dk_at dksL_law_0 3 rfl rfl)
theorem dL_law_4 : decode cL_law 4 = .ok (.invokespecial 9, 3) := dk_183 0 9 (dk_at dksL_law_0 4 rfl rfl)
theorem dL_law_7 : decode cL_law 7 = .ok (.astore_n 1, 1) := dk_76 (dk_at dksL_law_0 7 rfl rfl)
theorem dL_law_8 : decode cL_law 8 = .ok (.new 10, 3) := dk_187 0 10 (dk_at dksL_law_0 8 rfl rfl)
theorem dL_law_11 : decode cL_law 11 = .ok (.dup, 1) := dk_89 (dk_at dksL_law_0 11 rfl rfl)
theorem dL_law_12 : decode cL_law 12 = .ok (.invokespecial 12, 3) := dk_183 0 12 (dk_at dksL_law_0 12 rfl rfl)
theorem dL_law_15 : decode cL_law 15 = .ok (.astore_n 2, 1) := dk_77 (dk_at dksL_law_0 15 rfl rfl)
theorem dL_law_16 : decode cL_law 16 = .ok (.iconst 0, 1) := dk_3 (dk_at dksL_law_0 16 rfl rfl)
theorem dL_law_17 : decode cL_law 17 = .ok (.istore_n 3, 1) := dk_62 (dk_at dksL_law_0 17 rfl rfl)
theorem dL_law_18 : decode cL_law 18 = .ok (.iload_n 3, 1) := dk_29 (dk_at dksL_law_0 18 rfl rfl)
theorem dL_law_19 : decode cL_law 19 = .ok (.aload_n 0, 1) := dk_42 (dk_at dksL_law_0 19 rfl rfl)
theorem dL_law_20 : decode cL_law 20 = .ok (.arraylength, 1) := dk_190 (dk_at dksL_law_0 20 rfl rfl)
theorem dL_law_21 : decode cL_law 21 = .ok (.bipush 6, 2) := dk_16 6 (dk_at dksL_law_0 21 rfl rfl)
theorem dL_law_23 : decode cL_law 23 = .ok (.isub, 1) := dk_100 (dk_at dksL_law_0 23 rfl rfl)
theorem dL_law_24 : decode cL_law 24 = .ok (.if_icmp .gt 178, 3) := dk_163 0 178 (dk_at dksL_law_1 0 rfl rfl)
theorem dL_law_27 : decode cL_law 27 = .ok (.aload_n 0, 1) := dk_42 (dk_at dksL_law_1 3 rfl rfl)
theorem dL_law_28 : decode cL_law 28 = .ok (.iload_n 3, 1) := dk_29 (dk_at dksL_law_1 4 rfl rfl)
theorem dL_law_29 : decode cL_law 29 = .ok (.iaload, 1) := dk_46 (dk_at dksL_law_1 5 rfl rfl)
theorem dL_law_30 : decode cL_law 30 = .ok (.bipush 7, 2) := dk_16 7 (dk_at dksL_law_1 6 rfl rfl)
theorem dL_law_32 : decode cL_law 32 = .ok (.iand, 1) := dk_126 (dk_at dksL_law_1 8 rfl rfl)
theorem dL_law_33 : decode cL_law 33 = .ok (.tableswitch 163 0 5 #[39, 70, 81, 104, 127, 140], 39) := by decide +kernel
theorem dL_law_72 : decode cL_law 72 = .ok (.aload_n 1, 1) := dk_43 (dk_at dksL_law_3 0 rfl rfl)
theorem dL_law_73 : decode cL_law 73 = .ok (.aload_n 0, 1) := dk_42 (dk_at dksL_law_3 1 rfl rfl)
theorem dL_law_74 : decode cL_law 74 = .ok (.iload_n 3, 1) := dk_29 (dk_at dksL_law_3 2 rfl rfl)
theorem dL_law_75 : decode cL_law 75 = .ok (.iconst 1, 1) := dk_4 (dk_at dksL_law_3 3 rfl rfl)
theorem dL_law_76 : decode cL_law 76 = .ok (.iadd, 1) := dk_96 (dk_at dksL_law_3 4 rfl rfl)
theorem dL_law_77 : decode cL_law 77 = .ok (.iaload, 1) := dk_46 (dk_at dksL_law_3 5 rfl rfl)
theorem dL_law_78 : decode cL_law 78 = .ok (.aload_n 0, 1) := dk_42 (dk_at dksL_law_3 6 rfl rfl)
theorem dL_law_79 : decode cL_law 79 = .ok (.iload_n 3, 1) := dk_29 (dk_at dksL_law_3 7 rfl rfl)
theorem dL_law_80 : decode cL_law 80 = .ok (.iconst 2, 1) := dk_5 (dk_at dksL_law_3 8 rfl rfl)
theorem dL_law_81 : decode cL_law 81 = .ok (.iadd, 1) := dk_96 (dk_at dksL_law_3 9 rfl rfl)
theorem dL_law_82 : decode cL_law 82 = .ok (.iaload, 1) := dk_46 (dk_at dksL_law_3 10 rfl rfl)
theorem dL_law_83 : decode cL_law 83 = .ok (.invokevirtual 13, 3) := dk_182 0 13 (dk_at dksL_law_3 11 rfl rfl)
theorem dL_law_86 : decode cL_law 86 = .ok (.aload_n 2, 1) := dk_44 (dk_at dksL_law_3 14 rfl rfl)
theorem dL_law_87 : decode cL_law 87 = .ok (.aload_n 0, 1) := dk_42 (dk_at dksL_law_3 15 rfl rfl)
theorem dL_law_88 : decode cL_law 88 = .ok (.iload_n 3, 1) := dk_29 (dk_at dksL_law_3 16 rfl rfl)
theorem dL_law_89 : decode cL_law 89 = .ok (.iconst 1, 1) := dk_4 (dk_at dksL_law_3 17 rfl rfl)
theorem dL_law_90 : decode cL_law 90 = .ok (.iadd, 1) := dk_96 (dk_at dksL_law_3 18 rfl rfl)
theorem dL_law_91 : decode cL_law 91 = .ok (.iaload, 1) := dk_46 (dk_at dksL_law_3 19 rfl rfl)
theorem dL_law_92 : decode cL_law 92 = .ok (.aload_n 0, 1) := dk_42 (dk_at dksL_law_3 20 rfl rfl)
theorem dL_law_93 : decode cL_law 93 = .ok (.iload_n 3, 1) := dk_29 (dk_at dksL_law_3 21 rfl rfl)
theorem dL_law_94 : decode cL_law 94 = .ok (.iconst 2, 1) := dk_5 (dk_at dksL_law_3 22 rfl rfl)
theorem dL_law_95 : decode cL_law 95 = .ok (.iadd, 1) := dk_96 (dk_at dksL_law_3 23 rfl rfl)
theorem dL_law_96 : decode cL_law 96 = .ok (.iaload, 1) := dk_46 (dk_at dksL_law_4 0 rfl rfl)
theorem dL_law_97 : decode cL_law 97 = .ok (.invokevirtual 17, 3) := dk_182 0 17 (dk_at dksL_law_4 1 rfl rfl)
theorem dL_law_100 : decode cL_law 100 = .ok (.goto 96, 3) := dk_167 0 96 (dk_at dksL_law_4 4 rfl rfl)
theorem dL_law_103 : decode cL_law 103 = .ok (.aload_n 1, 1) := dk_43 (dk_at dksL_law_4 7 rfl rfl)
theorem dL_law_104 : decode cL_law 104 = .ok (.invokevirtual 18, 3) := dk_182 0 18 (dk_at dksL_law_4 8 rfl rfl)
theorem dL_law_107 : decode cL_law 107 = .ok (.aload_n 2, 1) := dk_44 (dk_at dksL_law_4 11 rfl rfl)
theorem dL_law_108 : decode cL_law 108 = .ok (.invokevirtual 21, 3) := dk_182 0 21 (dk_at dksL_law_4 12 rfl rfl)
theorem dL_law_111 : decode cL_law 111 = .ok (.goto 85, 3) := dk_167 0 85 (dk_at dksL_law_4 15 rfl rfl)
theorem dL_law_114 : decode cL_law 114 = .ok (.aload_n 1, 1) := dk_43 (dk_at dksL_law_4 18 rfl rfl)
theorem dL_law_115 : decode cL_law 115 = .ok (.aload_n 0, 1) := dk_42 (dk_at dksL_law_4 19 rfl rfl)
theorem dL_law_116 : decode cL_law 116 = .ok (.iload_n 3, 1) := dk_29 (dk_at dksL_law_4 20 rfl rfl)
theorem dL_law_117 : decode cL_law 117 = .ok (.iconst 1, 1) := dk_4 (dk_at dksL_law_4 21 rfl rfl)
theorem dL_law_118 : decode cL_law 118 = .ok (.iadd, 1) := dk_96 (dk_at dksL_law_4 22 rfl rfl)
theorem dL_law_119 : decode cL_law 119 = .ok (.iaload, 1) := dk_46 (dk_at dksL_law_4 23 rfl rfl)
theorem dL_law_120 : decode cL_law 120 = .ok (.invokevirtual 22, 3) := dk_182 0 22 (dk_at dksL_law_5 0 rfl rfl)
theorem dL_law_123 : decode cL_law 123 = .ok (.aload_n 2, 1) := dk_44 (dk_at dksL_law_5 3 rfl rfl)
theorem dL_law_124 : decode cL_law 124 = .ok (.aload_n 0, 1) := dk_42 (dk_at dksL_law_5 4 rfl rfl)
theorem dL_law_125 : decode cL_law 125 = .ok (.iload_n 3, 1) := dk_29 (dk_at dksL_law_5 5 rfl rfl)
theorem dL_law_126 : decode cL_law 126 = .ok (.iconst 1, 1) := dk_4 (dk_at dksL_law_5 6 rfl rfl)
theorem dL_law_127 : decode cL_law 127 = .ok (.iadd, 1) := dk_96 (dk_at dksL_law_5 7 rfl rfl)
theorem dL_law_128 : decode cL_law 128 = .ok (.iaload, 1) := dk_46 (dk_at dksL_law_5 8 rfl rfl)
theorem dL_law_129 : decode cL_law 129 = .ok (.invokevirtual 26, 3) := dk_182 0 26 (dk_at dksL_law_5 9 rfl rfl)
theorem dL_law_132 : decode cL_law 132 = .ok (.if_icmp .eq 64, 3) := dk_159 0 64 (dk_at dksL_law_5 12 rfl rfl)
theorem dL_law_135 : decode cL_law 135 = .ok (.iconst 0, 1) := dk_3 (dk_at dksL_law_5 15 rfl rfl)
theorem dL_law_136 : decode cL_law 136 = .ok (.ireturn, 1) := dk_172 (dk_at dksL_law_5 16 rfl rfl)
theorem dL_law_137 : decode cL_law 137 = .ok (.aload_n 1, 1) := dk_43 (dk_at dksL_law_5 17 rfl rfl)
theorem dL_law_138 : decode cL_law 138 = .ok (.aload_n 0, 1) := dk_42 (dk_at dksL_law_5 18 rfl rfl)
theorem dL_law_139 : decode cL_law 139 = .ok (.iload_n 3, 1) := dk_29 (dk_at dksL_law_5 19 rfl rfl)
theorem dL_law_140 : decode cL_law 140 = .ok (.iconst 1, 1) := dk_4 (dk_at dksL_law_5 20 rfl rfl)
theorem dL_law_141 : decode cL_law 141 = .ok (.iadd, 1) := dk_96 (dk_at dksL_law_5 21 rfl rfl)
theorem dL_law_142 : decode cL_law 142 = .ok (.iaload, 1) := dk_46 (dk_at dksL_law_5 22 rfl rfl)
theorem dL_law_143 : decode cL_law 143 = .ok (.invokevirtual 27, 3) := dk_182 0 27 (dk_at dksL_law_6 0 rfl rfl)
theorem dL_law_146 : decode cL_law 146 = .ok (.aload_n 2, 1) := dk_44 (dk_at dksL_law_6 3 rfl rfl)
theorem dL_law_147 : decode cL_law 147 = .ok (.aload_n 0, 1) := dk_42 (dk_at dksL_law_6 4 rfl rfl)
theorem dL_law_148 : decode cL_law 148 = .ok (.iload_n 3, 1) := dk_29 (dk_at dksL_law_6 5 rfl rfl)
theorem dL_law_149 : decode cL_law 149 = .ok (.iconst 1, 1) := dk_4 (dk_at dksL_law_6 6 rfl rfl)
theorem dL_law_150 : decode cL_law 150 = .ok (.iadd, 1) := dk_96 (dk_at dksL_law_6 7 rfl rfl)
theorem dL_law_151 : decode cL_law 151 = .ok (.iaload, 1) := dk_46 (dk_at dksL_law_6 8 rfl rfl)
theorem dL_law_152 : decode cL_law 152 = .ok (.invokevirtual 31, 3) := dk_182 0 31 (dk_at dksL_law_6 9 rfl rfl)
theorem dL_law_155 : decode cL_law 155 = .ok (.if_icmp .eq 41, 3) := dk_159 0 41 (dk_at dksL_law_6 12 rfl rfl)
theorem dL_law_158 : decode cL_law 158 = .ok (.iconst 0, 1) := dk_3 (dk_at dksL_law_6 15 rfl rfl)
theorem dL_law_159 : decode cL_law 159 = .ok (.ireturn, 1) := dk_172 (dk_at dksL_law_6 16 rfl rfl)
theorem dL_law_160 : decode cL_law 160 = .ok (.aload_n 1, 1) := dk_43 (dk_at dksL_law_6 17 rfl rfl)
theorem dL_law_161 : decode cL_law 161 = .ok (.invokevirtual 32, 3) := dk_182 0 32 (dk_at dksL_law_6 18 rfl rfl)
theorem dL_law_164 : decode cL_law 164 = .ok (.aload_n 2, 1) := dk_44 (dk_at dksL_law_6 21 rfl rfl)
theorem dL_law_165 : decode cL_law 165 = .ok (.invokevirtual 36, 3) := dk_182 0 36 (dk_at dksL_law_7 0 rfl rfl)
theorem dL_law_168 : decode cL_law 168 = .ok (.if_icmp .eq 28, 3) := dk_159 0 28 (dk_at dksL_law_7 3 rfl rfl)
theorem dL_law_171 : decode cL_law 171 = .ok (.iconst 0, 1) := dk_3 (dk_at dksL_law_7 6 rfl rfl)
theorem dL_law_172 : decode cL_law 172 = .ok (.ireturn, 1) := dk_172 (dk_at dksL_law_7 7 rfl rfl)
theorem dL_law_173 : decode cL_law 173 = .ok (.aload_n 1, 1) := dk_43 (dk_at dksL_law_7 8 rfl rfl)
theorem dL_law_174 : decode cL_law 174 = .ok (.aload_n 0, 1) := dk_42 (dk_at dksL_law_7 9 rfl rfl)
theorem dL_law_175 : decode cL_law 175 = .ok (.iload_n 3, 1) := dk_29 (dk_at dksL_law_7 10 rfl rfl)
theorem dL_law_176 : decode cL_law 176 = .ok (.iconst 1, 1) := dk_4 (dk_at dksL_law_7 11 rfl rfl)
theorem dL_law_177 : decode cL_law 177 = .ok (.iadd, 1) := dk_96 (dk_at dksL_law_7 12 rfl rfl)
theorem dL_law_178 : decode cL_law 178 = .ok (.iaload, 1) := dk_46 (dk_at dksL_law_7 13 rfl rfl)
theorem dL_law_179 : decode cL_law 179 = .ok (.invokevirtual 37, 3) := dk_182 0 37 (dk_at dksL_law_7 14 rfl rfl)
theorem dL_law_182 : decode cL_law 182 = .ok (.aload_n 2, 1) := dk_44 (dk_at dksL_law_7 17 rfl rfl)
theorem dL_law_183 : decode cL_law 183 = .ok (.aload_n 0, 1) := dk_42 (dk_at dksL_law_7 18 rfl rfl)
theorem dL_law_184 : decode cL_law 184 = .ok (.iload_n 3, 1) := dk_29 (dk_at dksL_law_7 19 rfl rfl)
theorem dL_law_185 : decode cL_law 185 = .ok (.iconst 1, 1) := dk_4 (dk_at dksL_law_7 20 rfl rfl)
theorem dL_law_186 : decode cL_law 186 = .ok (.iadd, 1) := dk_96 (dk_at dksL_law_7 21 rfl rfl)
theorem dL_law_187 : decode cL_law 187 = .ok (.iaload, 1) := dk_46 (dk_at dksL_law_7 22 rfl rfl)
theorem dL_law_188 : decode cL_law 188 = .ok (.invokevirtual 39, 3) := dk_182 0 39 (dk_at dksL_law_8 0 rfl rfl)
theorem dL_law_191 : decode cL_law 191 = .ok (.if_icmp .eq 5, 3) := dk_159 0 5 (dk_at dksL_law_8 3 rfl rfl)
theorem dL_law_194 : decode cL_law 194 = .ok (.iconst 0, 1) := dk_3 (dk_at dksL_law_8 6 rfl rfl)
theorem dL_law_195 : decode cL_law 195 = .ok (.ireturn, 1) := dk_172 (dk_at dksL_law_8 7 rfl rfl)
theorem dL_law_196 : decode cL_law 196 = .ok (.iinc 3 6, 3) := dk_132 3 6 (dk_at dksL_law_8 8 rfl rfl)
theorem dL_law_199 : decode cL_law 199 = .ok (.goto (-181), 3) := dk_167 255 75 (dk_at dksL_law_8 11 rfl rfl)
theorem dL_law_202 : decode cL_law 202 = .ok (.iconst 1, 1) := dk_4 (dk_at dksL_law_8 14 rfl rfl)
theorem dL_law_203 : decode cL_law 203 = .ok (.ireturn, 1) := dk_172 (dk_at dksL_law_8 15 rfl rfl)
end
section
/-! InnerCodeModel -/
set_option maxRecDepth 100000
def RX1 : String := "InnerCodeModel"
def TX1 : u_T := fun k => match k with
  | 0 => ("InnerCodeModel", "letters", "[I", true)
  | 1 => ("InnerCodeModel", "word", "[Z", true)
  | _ => ("InnerCodeModel", "harmed", "I", false)
def tyX1 : Nat → FieldType := fun k => match k with
  | 0 => .array .int
  | 1 => .array .boolean
  | _ => .int
abbrev wsX10 : List Cond := u_ws RX1 TX1 3
theorem nmX1 : ∀ a, a < 3 → ∀ b, b < 3 → a ≠ b → (TX1 a).2.1 ≠ (TX1 b).2.1 := by decide +kernel
theorem tyX1_ok : ∀ k, k < 3 → parseFieldDescriptor (TX1 k).2.2.1 = some (tyX1 k) := by decide +kernel
abbrev cX1_init : ByteArray := prog_3_method_1_code
def yX1_init : MethodName := ⟨RX1, "<init>", "()V"⟩
def dkwX1_init_0 : List UInt8 := [42, 183, 0, 1, 42, 7, 188, 10, 181, 0, 7, 42, 17, 6, 0, 188, 4, 181, 0, 13, 177]
abbrev dktX1_init_0 : List UInt8 := dkwX1_init_0 ++ []
theorem dksX1_init_0 : cX1_init.data.toList.drop 0 = dktX1_init_0 := by decide +kernel
theorem dX1_init_0 : decode cX1_init 0 = .ok (.aload_n 0, 1) := dk_42 (dk_at dksX1_init_0 0 rfl rfl)
theorem dX1_init_1 : decode cX1_init 1 = .ok (.invokespecial 1, 3) := dk_183 0 1 (dk_at dksX1_init_0 1 rfl rfl)
theorem dX1_init_4 : decode cX1_init 4 = .ok (.aload_n 0, 1) := dk_42 (dk_at dksX1_init_0 4 rfl rfl)
theorem dX1_init_5 : decode cX1_init 5 = .ok (.iconst 4, 1) := dk_7 (dk_at dksX1_init_0 5 rfl rfl)
theorem dX1_init_6 : decode cX1_init 6 = .ok (.newarray .int, 2) := dk_188_10 (dk_at dksX1_init_0 6 rfl rfl)
theorem dX1_init_8 : decode cX1_init 8 = .ok (.putfield 7, 3) := dk_181 0 7 (dk_at dksX1_init_0 8 rfl rfl)
theorem dX1_init_11 : decode cX1_init 11 = .ok (.aload_n 0, 1) := dk_42 (dk_at dksX1_init_0 11 rfl rfl)
theorem dX1_init_12 : decode cX1_init 12 = .ok (.sipush 1536, 3) := dk_17 6 0 (dk_at dksX1_init_0 12 rfl rfl)
theorem dX1_init_15 : decode cX1_init 15 = .ok (.newarray .boolean, 2) := dk_188_4 (dk_at dksX1_init_0 15 rfl rfl)
theorem dX1_init_17 : decode cX1_init 17 = .ok (.putfield 13, 3) := dk_181 0 13 (dk_at dksX1_init_0 17 rfl rfl)
theorem dX1_init_20 : decode cX1_init 20 = .ok (.return_, 1) := dk_177 (dk_at dksX1_init_0 20 rfl rfl)
abbrev cX1_letter : ByteArray := prog_3_method_4_code
def yX1_letter : MethodName := ⟨RX1, "letter", "(II)V"⟩
def dkwX1_letter_0 : List UInt8 := [42, 180, 0, 7, 27, 6, 126, 28, 17, 0, 255, 126, 79, 177]
abbrev dktX1_letter_0 : List UInt8 := dkwX1_letter_0 ++ []
theorem dksX1_letter_0 : cX1_letter.data.toList.drop 0 = dktX1_letter_0 := by decide +kernel
theorem dX1_letter_0 : decode cX1_letter 0 = .ok (.aload_n 0, 1) := dk_42 (dk_at dksX1_letter_0 0 rfl rfl)
theorem dX1_letter_1 : decode cX1_letter 1 = .ok (.getfield 7, 3) := dk_180 0 7 (dk_at dksX1_letter_0 1 rfl rfl)
theorem dX1_letter_4 : decode cX1_letter 4 = .ok (.iload_n 1, 1) := dk_27 (dk_at dksX1_letter_0 4 rfl rfl)
theorem dX1_letter_5 : decode cX1_letter 5 = .ok (.iconst 3, 1) := dk_6 (dk_at dksX1_letter_0 5 rfl rfl)
theorem dX1_letter_6 : decode cX1_letter 6 = .ok (.iand, 1) := dk_126 (dk_at dksX1_letter_0 6 rfl rfl)
theorem dX1_letter_7 : decode cX1_letter 7 = .ok (.iload_n 2, 1) := dk_28 (dk_at dksX1_letter_0 7 rfl rfl)
theorem dX1_letter_8 : decode cX1_letter 8 = .ok (.sipush 255, 3) := dk_17 0 255 (dk_at dksX1_letter_0 8 rfl rfl)
theorem dX1_letter_11 : decode cX1_letter 11 = .ok (.iand, 1) := dk_126 (dk_at dksX1_letter_0 11 rfl rfl)
theorem dX1_letter_12 : decode cX1_letter 12 = .ok (.iastore, 1) := dk_79 (dk_at dksX1_letter_0 12 rfl rfl)
theorem dX1_letter_13 : decode cX1_letter 13 = .ok (.return_, 1) := dk_177 (dk_at dksX1_letter_0 13 rfl rfl)
abbrev cX1_letter_2 : ByteArray := prog_3_method_5_code
def yX1_letter_2 : MethodName := ⟨RX1, "letter", "(I)I"⟩
def dkwX1_letter_2_0 : List UInt8 := [42, 180, 0, 7, 27, 6, 126, 46, 172]
abbrev dktX1_letter_2_0 : List UInt8 := dkwX1_letter_2_0 ++ []
theorem dksX1_letter_2_0 : cX1_letter_2.data.toList.drop 0 = dktX1_letter_2_0 := by decide +kernel
theorem dX1_letter_2_0 : decode cX1_letter_2 0 = .ok (.aload_n 0, 1) := dk_42 (dk_at dksX1_letter_2_0 0 rfl rfl)
theorem dX1_letter_2_1 : decode cX1_letter_2 1 = .ok (.getfield 7, 3) := dk_180 0 7 (dk_at dksX1_letter_2_0 1 rfl rfl)
theorem dX1_letter_2_4 : decode cX1_letter_2 4 = .ok (.iload_n 1, 1) := dk_27 (dk_at dksX1_letter_2_0 4 rfl rfl)
theorem dX1_letter_2_5 : decode cX1_letter_2 5 = .ok (.iconst 3, 1) := dk_6 (dk_at dksX1_letter_2_0 5 rfl rfl)
theorem dX1_letter_2_6 : decode cX1_letter_2 6 = .ok (.iand, 1) := dk_126 (dk_at dksX1_letter_2_0 6 rfl rfl)
theorem dX1_letter_2_7 : decode cX1_letter_2 7 = .ok (.iaload, 1) := dk_46 (dk_at dksX1_letter_2_0 7 rfl rfl)
theorem dX1_letter_2_8 : decode cX1_letter_2 8 = .ok (.ireturn, 1) := dk_172 (dk_at dksX1_letter_2_0 8 rfl rfl)
abbrev cX1_write : ByteArray := prog_3_method_6_code
def yX1_write : MethodName := ⟨RX1, "write", "()V"⟩
def dkwX1_write_3 : List UInt8 := [181, 0, 22, 177]
abbrev dktX1_write_3 : List UInt8 := dkwX1_write_3 ++ []
def dkwX1_write_2 : List UInt8 := [184, 0, 18, 84, 132, 3, 1, 167, 255, 218, 132, 2, 1, 167, 255, 205, 132, 1, 1, 167, 255, 192, 42, 3]
abbrev dktX1_write_2 : List UInt8 := dkwX1_write_2 ++ dktX1_write_3
def dkwX1_write_1 : List UInt8 := [180, 0, 13, 27, 17, 1, 128, 104, 28, 17, 0, 128, 104, 96, 29, 96, 42, 180, 0, 7, 27, 46, 29]
abbrev dktX1_write_1 : List UInt8 := dkwX1_write_1 ++ dktX1_write_2
def dkwX1_write_0 : List UInt8 := [3, 60, 27, 7, 162, 0, 65, 3, 61, 28, 6, 162, 0, 52, 3, 62, 29, 17, 0, 128, 162, 0, 37, 42]
abbrev dktX1_write_0 : List UInt8 := dkwX1_write_0 ++ dktX1_write_1
theorem dksX1_write_0 : cX1_write.data.toList.drop 0 = dktX1_write_0 := by decide +kernel
theorem dksX1_write_1 : cX1_write.data.toList.drop 24 = dktX1_write_1 := dk_seg dksX1_write_0 24 rfl rfl
theorem dksX1_write_2 : cX1_write.data.toList.drop 47 = dktX1_write_2 := dk_seg dksX1_write_1 23 rfl rfl
theorem dksX1_write_3 : cX1_write.data.toList.drop 71 = dktX1_write_3 := dk_seg dksX1_write_2 24 rfl rfl
theorem dX1_write_0 : decode cX1_write 0 = .ok (.iconst 0, 1) := dk_3 (dk_at dksX1_write_0 0 rfl rfl)
theorem dX1_write_1 : decode cX1_write 1 = .ok (.istore_n 1, 1) := dk_60 (dk_at dksX1_write_0 1 rfl rfl)
theorem dX1_write_2 : decode cX1_write 2 = .ok (.iload_n 1, 1) := dk_27 (dk_at dksX1_write_0 2 rfl rfl)
theorem dX1_write_3 : decode cX1_write 3 = .ok (.iconst 4, 1) := dk_7 (dk_at dksX1_write_0 3 rfl rfl)
theorem dX1_write_4 : decode cX1_write 4 = .ok (.if_icmp .ge 65, 3) := dk_162 0 65 (dk_at dksX1_write_0 4 rfl rfl)
theorem dX1_write_7 : decode cX1_write 7 = .ok (.iconst 0, 1) := dk_3 (dk_at dksX1_write_0 7 rfl rfl)
theorem dX1_write_8 : decode cX1_write 8 = .ok (.istore_n 2, 1) := dk_61 (dk_at dksX1_write_0 8 rfl rfl)
theorem dX1_write_9 : decode cX1_write 9 = .ok (.iload_n 2, 1) := dk_28 (dk_at dksX1_write_0 9 rfl rfl)
theorem dX1_write_10 : decode cX1_write 10 = .ok (.iconst 3, 1) := dk_6 (dk_at dksX1_write_0 10 rfl rfl)
theorem dX1_write_11 : decode cX1_write 11 = .ok (.if_icmp .ge 52, 3) := dk_162 0 52 (dk_at dksX1_write_0 11 rfl rfl)
theorem dX1_write_14 : decode cX1_write 14 = .ok (.iconst 0, 1) := dk_3 (dk_at dksX1_write_0 14 rfl rfl)
theorem dX1_write_15 : decode cX1_write 15 = .ok (.istore_n 3, 1) := dk_62 (dk_at dksX1_write_0 15 rfl rfl)
theorem dX1_write_16 : decode cX1_write 16 = .ok (.iload_n 3, 1) := dk_29 (dk_at dksX1_write_0 16 rfl rfl)
theorem dX1_write_17 : decode cX1_write 17 = .ok (.sipush 128, 3) := dk_17 0 128 (dk_at dksX1_write_0 17 rfl rfl)
theorem dX1_write_20 : decode cX1_write 20 = .ok (.if_icmp .ge 37, 3) := dk_162 0 37 (dk_at dksX1_write_0 20 rfl rfl)
theorem dX1_write_23 : decode cX1_write 23 = .ok (.aload_n 0, 1) := dk_42 (dk_at dksX1_write_0 23 rfl rfl)
theorem dX1_write_24 : decode cX1_write 24 = .ok (.getfield 13, 3) := dk_180 0 13 (dk_at dksX1_write_1 0 rfl rfl)
theorem dX1_write_27 : decode cX1_write 27 = .ok (.iload_n 1, 1) := dk_27 (dk_at dksX1_write_1 3 rfl rfl)
theorem dX1_write_28 : decode cX1_write 28 = .ok (.sipush 384, 3) := dk_17 1 128 (dk_at dksX1_write_1 4 rfl rfl)
theorem dX1_write_31 : decode cX1_write 31 = .ok (.imul, 1) := dk_104 (dk_at dksX1_write_1 7 rfl rfl)
theorem dX1_write_32 : decode cX1_write 32 = .ok (.iload_n 2, 1) := dk_28 (dk_at dksX1_write_1 8 rfl rfl)
theorem dX1_write_33 : decode cX1_write 33 = .ok (.sipush 128, 3) := dk_17 0 128 (dk_at dksX1_write_1 9 rfl rfl)
theorem dX1_write_36 : decode cX1_write 36 = .ok (.imul, 1) := dk_104 (dk_at dksX1_write_1 12 rfl rfl)
theorem dX1_write_37 : decode cX1_write 37 = .ok (.iadd, 1) := dk_96 (dk_at dksX1_write_1 13 rfl rfl)
theorem dX1_write_38 : decode cX1_write 38 = .ok (.iload_n 3, 1) := dk_29 (dk_at dksX1_write_1 14 rfl rfl)
theorem dX1_write_39 : decode cX1_write 39 = .ok (.iadd, 1) := dk_96 (dk_at dksX1_write_1 15 rfl rfl)
theorem dX1_write_40 : decode cX1_write 40 = .ok (.aload_n 0, 1) := dk_42 (dk_at dksX1_write_1 16 rfl rfl)
theorem dX1_write_41 : decode cX1_write 41 = .ok (.getfield 7, 3) := dk_180 0 7 (dk_at dksX1_write_1 17 rfl rfl)
theorem dX1_write_44 : decode cX1_write 44 = .ok (.iload_n 1, 1) := dk_27 (dk_at dksX1_write_1 20 rfl rfl)
theorem dX1_write_45 : decode cX1_write 45 = .ok (.iaload, 1) := dk_46 (dk_at dksX1_write_1 21 rfl rfl)
theorem dX1_write_46 : decode cX1_write 46 = .ok (.iload_n 3, 1) := dk_29 (dk_at dksX1_write_1 22 rfl rfl)
theorem dX1_write_47 : decode cX1_write 47 = .ok (.invokestatic 18, 3) := dk_184 0 18 (dk_at dksX1_write_2 0 rfl rfl)
theorem dX1_write_50 : decode cX1_write 50 = .ok (.bastore, 1) := dk_84 (dk_at dksX1_write_2 3 rfl rfl)
theorem dX1_write_51 : decode cX1_write 51 = .ok (.iinc 3 1, 3) := dk_132 3 1 (dk_at dksX1_write_2 4 rfl rfl)
theorem dX1_write_54 : decode cX1_write 54 = .ok (.goto (-38), 3) := dk_167 255 218 (dk_at dksX1_write_2 7 rfl rfl)
theorem dX1_write_57 : decode cX1_write 57 = .ok (.iinc 2 1, 3) := dk_132 2 1 (dk_at dksX1_write_2 10 rfl rfl)
theorem dX1_write_60 : decode cX1_write 60 = .ok (.goto (-51), 3) := dk_167 255 205 (dk_at dksX1_write_2 13 rfl rfl)
theorem dX1_write_63 : decode cX1_write 63 = .ok (.iinc 1 1, 3) := dk_132 1 1 (dk_at dksX1_write_2 16 rfl rfl)
theorem dX1_write_66 : decode cX1_write 66 = .ok (.goto (-64), 3) := dk_167 255 192 (dk_at dksX1_write_2 19 rfl rfl)
theorem dX1_write_69 : decode cX1_write 69 = .ok (.aload_n 0, 1) := dk_42 (dk_at dksX1_write_2 22 rfl rfl)
theorem dX1_write_70 : decode cX1_write 70 = .ok (.iconst 0, 1) := dk_3 (dk_at dksX1_write_2 23 rfl rfl)
theorem dX1_write_71 : decode cX1_write 71 = .ok (.putfield 22, 3) := dk_181 0 22 (dk_at dksX1_write_3 0 rfl rfl)
theorem dX1_write_74 : decode cX1_write 74 = .ok (.return_, 1) := dk_177 (dk_at dksX1_write_3 3 rfl rfl)
abbrev cX1_place : ByteArray := prog_3_method_2_code
def yX1_place : MethodName := ⟨RX1, "place", "(II)Z"⟩
def dkwX1_place_2 : List UInt8 := [167, 0, 4, 3, 61, 132, 3, 1, 167, 255, 219, 28, 172]
abbrev dktX1_place_2 : List UInt8 := dkwX1_place_2 ++ []
def dkwX1_place_1 : List UInt8 := [26, 29, 122, 4, 126, 4, 160, 0, 22, 27, 29, 122, 4, 126, 4, 160, 0, 13, 28, 154, 0, 7, 4]
abbrev dktX1_place_1 : List UInt8 := dkwX1_place_1 ++ dktX1_place_2
def dkwX1_place_0 : List UInt8 := [26, 16, 7, 122, 4, 126, 4, 160, 0, 7, 4, 167, 0, 4, 3, 61, 3, 62, 29, 16, 7, 162, 0, 37]
abbrev dktX1_place_0 : List UInt8 := dkwX1_place_0 ++ dktX1_place_1
theorem dksX1_place_0 : cX1_place.data.toList.drop 0 = dktX1_place_0 := by decide +kernel
theorem dksX1_place_1 : cX1_place.data.toList.drop 24 = dktX1_place_1 := dk_seg dksX1_place_0 24 rfl rfl
theorem dksX1_place_2 : cX1_place.data.toList.drop 47 = dktX1_place_2 := dk_seg dksX1_place_1 23 rfl rfl
theorem dX1_place_0 : decode cX1_place 0 = .ok (.iload_n 0, 1) := dk_26 (dk_at dksX1_place_0 0 rfl rfl)
theorem dX1_place_1 : decode cX1_place 1 = .ok (.bipush 7, 2) := dk_16 7 (dk_at dksX1_place_0 1 rfl rfl)
theorem dX1_place_3 : decode cX1_place 3 = .ok (.ishr, 1) := dk_122 (dk_at dksX1_place_0 3 rfl rfl)
theorem dX1_place_4 : decode cX1_place 4 = .ok (.iconst 1, 1) := dk_4 (dk_at dksX1_place_0 4 rfl rfl)
theorem dX1_place_5 : decode cX1_place 5 = .ok (.iand, 1) := dk_126 (dk_at dksX1_place_0 5 rfl rfl)
theorem dX1_place_6 : decode cX1_place 6 = .ok (.iconst 1, 1) := dk_4 (dk_at dksX1_place_0 6 rfl rfl)
theorem dX1_place_7 : decode cX1_place 7 = .ok (.if_icmp .ne 7, 3) := dk_160 0 7 (dk_at dksX1_place_0 7 rfl rfl)
theorem dX1_place_10 : decode cX1_place 10 = .ok (.iconst 1, 1) := dk_4 (dk_at dksX1_place_0 10 rfl rfl)
theorem dX1_place_11 : decode cX1_place 11 = .ok (.goto 4, 3) := dk_167 0 4 (dk_at dksX1_place_0 11 rfl rfl)
theorem dX1_place_14 : decode cX1_place 14 = .ok (.iconst 0, 1) := dk_3 (dk_at dksX1_place_0 14 rfl rfl)
theorem dX1_place_15 : decode cX1_place 15 = .ok (.istore_n 2, 1) := dk_61 (dk_at dksX1_place_0 15 rfl rfl)
theorem dX1_place_16 : decode cX1_place 16 = .ok (.iconst 0, 1) := dk_3 (dk_at dksX1_place_0 16 rfl rfl)
theorem dX1_place_17 : decode cX1_place 17 = .ok (.istore_n 3, 1) := dk_62 (dk_at dksX1_place_0 17 rfl rfl)
theorem dX1_place_18 : decode cX1_place 18 = .ok (.iload_n 3, 1) := dk_29 (dk_at dksX1_place_0 18 rfl rfl)
theorem dX1_place_19 : decode cX1_place 19 = .ok (.bipush 7, 2) := dk_16 7 (dk_at dksX1_place_0 19 rfl rfl)
theorem dX1_place_21 : decode cX1_place 21 = .ok (.if_icmp .ge 37, 3) := dk_162 0 37 (dk_at dksX1_place_0 21 rfl rfl)
theorem dX1_place_24 : decode cX1_place 24 = .ok (.iload_n 0, 1) := dk_26 (dk_at dksX1_place_1 0 rfl rfl)
theorem dX1_place_25 : decode cX1_place 25 = .ok (.iload_n 3, 1) := dk_29 (dk_at dksX1_place_1 1 rfl rfl)
theorem dX1_place_26 : decode cX1_place 26 = .ok (.ishr, 1) := dk_122 (dk_at dksX1_place_1 2 rfl rfl)
theorem dX1_place_27 : decode cX1_place 27 = .ok (.iconst 1, 1) := dk_4 (dk_at dksX1_place_1 3 rfl rfl)
theorem dX1_place_28 : decode cX1_place 28 = .ok (.iand, 1) := dk_126 (dk_at dksX1_place_1 4 rfl rfl)
theorem dX1_place_29 : decode cX1_place 29 = .ok (.iconst 1, 1) := dk_4 (dk_at dksX1_place_1 5 rfl rfl)
theorem dX1_place_30 : decode cX1_place 30 = .ok (.if_icmp .ne 22, 3) := dk_160 0 22 (dk_at dksX1_place_1 6 rfl rfl)
theorem dX1_place_33 : decode cX1_place 33 = .ok (.iload_n 1, 1) := dk_27 (dk_at dksX1_place_1 9 rfl rfl)
theorem dX1_place_34 : decode cX1_place 34 = .ok (.iload_n 3, 1) := dk_29 (dk_at dksX1_place_1 10 rfl rfl)
theorem dX1_place_35 : decode cX1_place 35 = .ok (.ishr, 1) := dk_122 (dk_at dksX1_place_1 11 rfl rfl)
theorem dX1_place_36 : decode cX1_place 36 = .ok (.iconst 1, 1) := dk_4 (dk_at dksX1_place_1 12 rfl rfl)
theorem dX1_place_37 : decode cX1_place 37 = .ok (.iand, 1) := dk_126 (dk_at dksX1_place_1 13 rfl rfl)
theorem dX1_place_38 : decode cX1_place 38 = .ok (.iconst 1, 1) := dk_4 (dk_at dksX1_place_1 14 rfl rfl)
theorem dX1_place_39 : decode cX1_place 39 = .ok (.if_icmp .ne 13, 3) := dk_160 0 13 (dk_at dksX1_place_1 15 rfl rfl)
theorem dX1_place_42 : decode cX1_place 42 = .ok (.iload_n 2, 1) := dk_28 (dk_at dksX1_place_1 18 rfl rfl)
theorem dX1_place_43 : decode cX1_place 43 = .ok (.ifCond .ne 7, 3) := dk_154 0 7 (dk_at dksX1_place_1 19 rfl rfl)
theorem dX1_place_46 : decode cX1_place 46 = .ok (.iconst 1, 1) := dk_4 (dk_at dksX1_place_1 22 rfl rfl)
theorem dX1_place_47 : decode cX1_place 47 = .ok (.goto 4, 3) := dk_167 0 4 (dk_at dksX1_place_2 0 rfl rfl)
theorem dX1_place_50 : decode cX1_place 50 = .ok (.iconst 0, 1) := dk_3 (dk_at dksX1_place_2 3 rfl rfl)
theorem dX1_place_51 : decode cX1_place 51 = .ok (.istore_n 2, 1) := dk_61 (dk_at dksX1_place_2 4 rfl rfl)
theorem dX1_place_52 : decode cX1_place 52 = .ok (.iinc 3 1, 3) := dk_132 3 1 (dk_at dksX1_place_2 5 rfl rfl)
theorem dX1_place_55 : decode cX1_place 55 = .ok (.goto (-37), 3) := dk_167 255 219 (dk_at dksX1_place_2 8 rfl rfl)
theorem dX1_place_58 : decode cX1_place 58 = .ok (.iload_n 2, 1) := dk_28 (dk_at dksX1_place_2 11 rfl rfl)
theorem dX1_place_59 : decode cX1_place 59 = .ok (.ireturn, 1) := dk_172 (dk_at dksX1_place_2 12 rfl rfl)
abbrev cX1_harm : ByteArray := prog_3_method_7_code
def yX1_harm : MethodName := ⟨RX1, "harm", "(I)Z"⟩
def dkwX1_harm_2 : List UInt8 := [4, 172]
abbrev dktX1_harm_2 : List UInt8 := dkwX1_harm_2 ++ []
def dkwX1_harm_1 : List UInt8 := [180, 0, 13, 28, 51, 154, 0, 7, 4, 167, 0, 4, 3, 84, 42, 89, 180, 0, 22, 4, 96, 181, 0, 22]
abbrev dktX1_harm_1 : List UInt8 := dkwX1_harm_1 ++ dktX1_harm_2
def dkwX1_harm_0 : List UInt8 := [42, 180, 0, 22, 16, 40, 161, 0, 5, 3, 172, 27, 184, 0, 26, 61, 42, 180, 0, 13, 28, 42]
abbrev dktX1_harm_0 : List UInt8 := dkwX1_harm_0 ++ dktX1_harm_1
theorem dksX1_harm_0 : cX1_harm.data.toList.drop 0 = dktX1_harm_0 := by decide +kernel
theorem dksX1_harm_1 : cX1_harm.data.toList.drop 22 = dktX1_harm_1 := dk_seg dksX1_harm_0 22 rfl rfl
theorem dksX1_harm_2 : cX1_harm.data.toList.drop 46 = dktX1_harm_2 := dk_seg dksX1_harm_1 24 rfl rfl
theorem dX1_harm_0 : decode cX1_harm 0 = .ok (.aload_n 0, 1) := dk_42 (dk_at dksX1_harm_0 0 rfl rfl)
theorem dX1_harm_1 : decode cX1_harm 1 = .ok (.getfield 22, 3) := dk_180 0 22 (dk_at dksX1_harm_0 1 rfl rfl)
theorem dX1_harm_4 : decode cX1_harm 4 = .ok (.bipush 40, 2) := dk_16 40 (dk_at dksX1_harm_0 4 rfl rfl)
theorem dX1_harm_6 : decode cX1_harm 6 = .ok (.if_icmp .lt 5, 3) := dk_161 0 5 (dk_at dksX1_harm_0 6 rfl rfl)
theorem dX1_harm_9 : decode cX1_harm 9 = .ok (.iconst 0, 1) := dk_3 (dk_at dksX1_harm_0 9 rfl rfl)
theorem dX1_harm_10 : decode cX1_harm 10 = .ok (.ireturn, 1) := dk_172 (dk_at dksX1_harm_0 10 rfl rfl)
theorem dX1_harm_11 : decode cX1_harm 11 = .ok (.iload_n 1, 1) := dk_27 (dk_at dksX1_harm_0 11 rfl rfl)
theorem dX1_harm_12 : decode cX1_harm 12 = .ok (.invokestatic 26, 3) := dk_184 0 26 (dk_at dksX1_harm_0 12 rfl rfl)
theorem dX1_harm_15 : decode cX1_harm 15 = .ok (.istore_n 2, 1) := dk_61 (dk_at dksX1_harm_0 15 rfl rfl)
theorem dX1_harm_16 : decode cX1_harm 16 = .ok (.aload_n 0, 1) := dk_42 (dk_at dksX1_harm_0 16 rfl rfl)
theorem dX1_harm_17 : decode cX1_harm 17 = .ok (.getfield 13, 3) := dk_180 0 13 (dk_at dksX1_harm_0 17 rfl rfl)
theorem dX1_harm_20 : decode cX1_harm 20 = .ok (.iload_n 2, 1) := dk_28 (dk_at dksX1_harm_0 20 rfl rfl)
theorem dX1_harm_21 : decode cX1_harm 21 = .ok (.aload_n 0, 1) := dk_42 (dk_at dksX1_harm_0 21 rfl rfl)
theorem dX1_harm_22 : decode cX1_harm 22 = .ok (.getfield 13, 3) := dk_180 0 13 (dk_at dksX1_harm_1 0 rfl rfl)
theorem dX1_harm_25 : decode cX1_harm 25 = .ok (.iload_n 2, 1) := dk_28 (dk_at dksX1_harm_1 3 rfl rfl)
theorem dX1_harm_26 : decode cX1_harm 26 = .ok (.baload, 1) := dk_51 (dk_at dksX1_harm_1 4 rfl rfl)
theorem dX1_harm_27 : decode cX1_harm 27 = .ok (.ifCond .ne 7, 3) := dk_154 0 7 (dk_at dksX1_harm_1 5 rfl rfl)
theorem dX1_harm_30 : decode cX1_harm 30 = .ok (.iconst 1, 1) := dk_4 (dk_at dksX1_harm_1 8 rfl rfl)
theorem dX1_harm_31 : decode cX1_harm 31 = .ok (.goto 4, 3) := dk_167 0 4 (dk_at dksX1_harm_1 9 rfl rfl)
theorem dX1_harm_34 : decode cX1_harm 34 = .ok (.iconst 0, 1) := dk_3 (dk_at dksX1_harm_1 12 rfl rfl)
theorem dX1_harm_35 : decode cX1_harm 35 = .ok (.bastore, 1) := dk_84 (dk_at dksX1_harm_1 13 rfl rfl)
theorem dX1_harm_36 : decode cX1_harm 36 = .ok (.aload_n 0, 1) := dk_42 (dk_at dksX1_harm_1 14 rfl rfl)
theorem dX1_harm_37 : decode cX1_harm 37 = .ok (.dup, 1) := dk_89 (dk_at dksX1_harm_1 15 rfl rfl)
theorem dX1_harm_38 : decode cX1_harm 38 = .ok (.getfield 22, 3) := dk_180 0 22 (dk_at dksX1_harm_1 16 rfl rfl)
theorem dX1_harm_41 : decode cX1_harm 41 = .ok (.iconst 1, 1) := dk_4 (dk_at dksX1_harm_1 19 rfl rfl)
theorem dX1_harm_42 : decode cX1_harm 42 = .ok (.iadd, 1) := dk_96 (dk_at dksX1_harm_1 20 rfl rfl)
theorem dX1_harm_43 : decode cX1_harm 43 = .ok (.putfield 22, 3) := dk_181 0 22 (dk_at dksX1_harm_1 21 rfl rfl)
theorem dX1_harm_46 : decode cX1_harm 46 = .ok (.iconst 1, 1) := dk_4 (dk_at dksX1_harm_2 0 rfl rfl)
theorem dX1_harm_47 : decode cX1_harm 47 = .ok (.ireturn, 1) := dk_172 (dk_at dksX1_harm_2 1 rfl rfl)
abbrev cX1_spot : ByteArray := prog_3_method_3_code
def yX1_spot : MethodName := ⟨RX1, "spot", "(I)I"⟩
def dkwX1_spot_0 : List UInt8 := [26, 18, 17, 126, 17, 6, 0, 112, 172]
abbrev dktX1_spot_0 : List UInt8 := dkwX1_spot_0 ++ []
theorem dksX1_spot_0 : cX1_spot.data.toList.drop 0 = dktX1_spot_0 := by decide +kernel
theorem dX1_spot_0 : decode cX1_spot 0 = .ok (.iload_n 0, 1) := dk_26 (dk_at dksX1_spot_0 0 rfl rfl)
theorem dX1_spot_1 : decode cX1_spot 1 = .ok (.ldc 17, 2) := dk_18 17 (dk_at dksX1_spot_0 1 rfl rfl)
theorem dX1_spot_3 : decode cX1_spot 3 = .ok (.iand, 1) := dk_126 (dk_at dksX1_spot_0 3 rfl rfl)
theorem dX1_spot_4 : decode cX1_spot 4 = .ok (.sipush 1536, 3) := dk_17 6 0 (dk_at dksX1_spot_0 4 rfl rfl)
theorem dX1_spot_7 : decode cX1_spot 7 = .ok (.irem, 1) := dk_112 (dk_at dksX1_spot_0 7 rfl rfl)
theorem dX1_spot_8 : decode cX1_spot 8 = .ok (.ireturn, 1) := dk_172 (dk_at dksX1_spot_0 8 rfl rfl)
abbrev cX1_bit : ByteArray := prog_3_method_8_code
def yX1_bit : MethodName := ⟨RX1, "bit", "(I)I"⟩
def dkwX1_bit_0 : List UInt8 := [42, 180, 0, 13, 27, 184, 0, 26, 51, 153, 0, 7, 4, 167, 0, 4, 3, 172]
abbrev dktX1_bit_0 : List UInt8 := dkwX1_bit_0 ++ []
theorem dksX1_bit_0 : cX1_bit.data.toList.drop 0 = dktX1_bit_0 := by decide +kernel
theorem dX1_bit_0 : decode cX1_bit 0 = .ok (.aload_n 0, 1) := dk_42 (dk_at dksX1_bit_0 0 rfl rfl)
theorem dX1_bit_1 : decode cX1_bit 1 = .ok (.getfield 13, 3) := dk_180 0 13 (dk_at dksX1_bit_0 1 rfl rfl)
theorem dX1_bit_4 : decode cX1_bit 4 = .ok (.iload_n 1, 1) := dk_27 (dk_at dksX1_bit_0 4 rfl rfl)
theorem dX1_bit_5 : decode cX1_bit 5 = .ok (.invokestatic 26, 3) := dk_184 0 26 (dk_at dksX1_bit_0 5 rfl rfl)
theorem dX1_bit_8 : decode cX1_bit 8 = .ok (.baload, 1) := dk_51 (dk_at dksX1_bit_0 8 rfl rfl)
theorem dX1_bit_9 : decode cX1_bit 9 = .ok (.ifCond .eq 7, 3) := dk_153 0 7 (dk_at dksX1_bit_0 9 rfl rfl)
theorem dX1_bit_12 : decode cX1_bit 12 = .ok (.iconst 1, 1) := dk_4 (dk_at dksX1_bit_0 12 rfl rfl)
theorem dX1_bit_13 : decode cX1_bit 13 = .ok (.goto 4, 3) := dk_167 0 4 (dk_at dksX1_bit_0 13 rfl rfl)
theorem dX1_bit_16 : decode cX1_bit 16 = .ok (.iconst 0, 1) := dk_3 (dk_at dksX1_bit_0 16 rfl rfl)
theorem dX1_bit_17 : decode cX1_bit 17 = .ok (.ireturn, 1) := dk_172 (dk_at dksX1_bit_0 17 rfl rfl)
abbrev cX1_read : ByteArray := prog_3_method_10_code
def yX1_read : MethodName := ⟨RX1, "read", "()I"⟩
def dkwX1_read_1 : List UInt8 := [167, 255, 237, 27, 172]
abbrev dktX1_read_1 : List UInt8 := dkwX1_read_1 ++ []
def dkwX1_read_0 : List UInt8 := [3, 60, 3, 61, 28, 7, 162, 0, 20, 27, 16, 8, 120, 42, 28, 182, 0, 30, 128, 60, 132, 2, 1]
abbrev dktX1_read_0 : List UInt8 := dkwX1_read_0 ++ dktX1_read_1
theorem dksX1_read_0 : cX1_read.data.toList.drop 0 = dktX1_read_0 := by decide +kernel
theorem dksX1_read_1 : cX1_read.data.toList.drop 23 = dktX1_read_1 := dk_seg dksX1_read_0 23 rfl rfl
theorem dX1_read_0 : decode cX1_read 0 = .ok (.iconst 0, 1) := dk_3 (dk_at dksX1_read_0 0 rfl rfl)
theorem dX1_read_1 : decode cX1_read 1 = .ok (.istore_n 1, 1) := dk_60 (dk_at dksX1_read_0 1 rfl rfl)
theorem dX1_read_2 : decode cX1_read 2 = .ok (.iconst 0, 1) := dk_3 (dk_at dksX1_read_0 2 rfl rfl)
theorem dX1_read_3 : decode cX1_read 3 = .ok (.istore_n 2, 1) := dk_61 (dk_at dksX1_read_0 3 rfl rfl)
theorem dX1_read_4 : decode cX1_read 4 = .ok (.iload_n 2, 1) := dk_28 (dk_at dksX1_read_0 4 rfl rfl)
theorem dX1_read_5 : decode cX1_read 5 = .ok (.iconst 4, 1) := dk_7 (dk_at dksX1_read_0 5 rfl rfl)
theorem dX1_read_6 : decode cX1_read 6 = .ok (.if_icmp .ge 20, 3) := dk_162 0 20 (dk_at dksX1_read_0 6 rfl rfl)
theorem dX1_read_9 : decode cX1_read 9 = .ok (.iload_n 1, 1) := dk_27 (dk_at dksX1_read_0 9 rfl rfl)
theorem dX1_read_10 : decode cX1_read 10 = .ok (.bipush 8, 2) := dk_16 8 (dk_at dksX1_read_0 10 rfl rfl)
theorem dX1_read_12 : decode cX1_read 12 = .ok (.ishl, 1) := dk_120 (dk_at dksX1_read_0 12 rfl rfl)
theorem dX1_read_13 : decode cX1_read 13 = .ok (.aload_n 0, 1) := dk_42 (dk_at dksX1_read_0 13 rfl rfl)
theorem dX1_read_14 : decode cX1_read 14 = .ok (.iload_n 2, 1) := dk_28 (dk_at dksX1_read_0 14 rfl rfl)
theorem dX1_read_15 : decode cX1_read 15 = .ok (.invokevirtual 30, 3) := dk_182 0 30 (dk_at dksX1_read_0 15 rfl rfl)
theorem dX1_read_18 : decode cX1_read 18 = .ok (.ior, 1) := dk_128 (dk_at dksX1_read_0 18 rfl rfl)
theorem dX1_read_19 : decode cX1_read 19 = .ok (.istore_n 1, 1) := dk_60 (dk_at dksX1_read_0 19 rfl rfl)
theorem dX1_read_20 : decode cX1_read 20 = .ok (.iinc 2 1, 3) := dk_132 2 1 (dk_at dksX1_read_0 20 rfl rfl)
theorem dX1_read_23 : decode cX1_read 23 = .ok (.goto (-19), 3) := dk_167 255 237 (dk_at dksX1_read_1 0 rfl rfl)
theorem dX1_read_26 : decode cX1_read 26 = .ok (.iload_n 1, 1) := dk_27 (dk_at dksX1_read_1 3 rfl rfl)
theorem dX1_read_27 : decode cX1_read 27 = .ok (.ireturn, 1) := dk_172 (dk_at dksX1_read_1 4 rfl rfl)
abbrev cX1_nearest : ByteArray := prog_3_method_9_code
def yX1_nearest : MethodName := ⟨RX1, "nearest", "(I)I"⟩
def dkwX1_nearest_4 : List UInt8 := [162, 0, 9, 21, 5, 62, 21, 4, 61, 132, 4, 1, 167, 255, 161, 28, 172]
abbrev dktX1_nearest_4 : List UInt8 := dkwX1_nearest_4 ++ []
def dkwX1_nearest_3 : List UInt8 := [21, 7, 159, 0, 6, 132, 5, 1, 132, 8, 1, 167, 255, 219, 132, 6, 1, 167, 255, 193, 21, 5, 29]
abbrev dktX1_nearest_3 : List UInt8 := dkwX1_nearest_3 ++ dktX1_nearest_4
def dkwX1_nearest_2 : List UInt8 := [162, 0, 37, 42, 180, 0, 13, 27, 17, 1, 128, 104, 21, 8, 17, 0, 128, 104, 96, 21, 6, 96, 51]
abbrev dktX1_nearest_2 : List UInt8 := dkwX1_nearest_2 ++ dktX1_nearest_3
def dkwX1_nearest_1 : List UInt8 := [21, 6, 17, 0, 128, 162, 0, 61, 21, 4, 21, 6, 184, 0, 18, 54, 7, 3, 54, 8, 21, 8, 6]
abbrev dktX1_nearest_1 : List UInt8 := dkwX1_nearest_1 ++ dktX1_nearest_2
def dkwX1_nearest_0 : List UInt8 := [3, 61, 17, 1, 129, 62, 3, 54, 4, 21, 4, 17, 1, 0, 162, 0, 93, 3, 54, 5, 3, 54, 6]
abbrev dktX1_nearest_0 : List UInt8 := dkwX1_nearest_0 ++ dktX1_nearest_1
theorem dksX1_nearest_0 : cX1_nearest.data.toList.drop 0 = dktX1_nearest_0 := by decide +kernel
theorem dksX1_nearest_1 : cX1_nearest.data.toList.drop 23 = dktX1_nearest_1 := dk_seg dksX1_nearest_0 23 rfl rfl
theorem dksX1_nearest_2 : cX1_nearest.data.toList.drop 46 = dktX1_nearest_2 := dk_seg dksX1_nearest_1 23 rfl rfl
theorem dksX1_nearest_3 : cX1_nearest.data.toList.drop 69 = dktX1_nearest_3 := dk_seg dksX1_nearest_2 23 rfl rfl
theorem dksX1_nearest_4 : cX1_nearest.data.toList.drop 92 = dktX1_nearest_4 := dk_seg dksX1_nearest_3 23 rfl rfl
theorem dX1_nearest_0 : decode cX1_nearest 0 = .ok (.iconst 0, 1) := dk_3 (dk_at dksX1_nearest_0 0 rfl rfl)
theorem dX1_nearest_1 : decode cX1_nearest 1 = .ok (.istore_n 2, 1) := dk_61 (dk_at dksX1_nearest_0 1 rfl rfl)
theorem dX1_nearest_2 : decode cX1_nearest 2 = .ok (.sipush 385, 3) := dk_17 1 129 (dk_at dksX1_nearest_0 2 rfl rfl)
theorem dX1_nearest_5 : decode cX1_nearest 5 = .ok (.istore_n 3, 1) := dk_62 (dk_at dksX1_nearest_0 5 rfl rfl)
theorem dX1_nearest_6 : decode cX1_nearest 6 = .ok (.iconst 0, 1) := dk_3 (dk_at dksX1_nearest_0 6 rfl rfl)
theorem dX1_nearest_7 : decode cX1_nearest 7 = .ok (.istore 4, 2) := dk_54 4 (dk_at dksX1_nearest_0 7 rfl rfl)
theorem dX1_nearest_9 : decode cX1_nearest 9 = .ok (.iload 4, 2) := dk_21 4 (dk_at dksX1_nearest_0 9 rfl rfl)
theorem dX1_nearest_11 : decode cX1_nearest 11 = .ok (.sipush 256, 3) := dk_17 1 0 (dk_at dksX1_nearest_0 11 rfl rfl)
theorem dX1_nearest_14 : decode cX1_nearest 14 = .ok (.if_icmp .ge 93, 3) := dk_162 0 93 (dk_at dksX1_nearest_0 14 rfl rfl)
theorem dX1_nearest_17 : decode cX1_nearest 17 = .ok (.iconst 0, 1) := dk_3 (dk_at dksX1_nearest_0 17 rfl rfl)
theorem dX1_nearest_18 : decode cX1_nearest 18 = .ok (.istore 5, 2) := dk_54 5 (dk_at dksX1_nearest_0 18 rfl rfl)
theorem dX1_nearest_20 : decode cX1_nearest 20 = .ok (.iconst 0, 1) := dk_3 (dk_at dksX1_nearest_0 20 rfl rfl)
theorem dX1_nearest_21 : decode cX1_nearest 21 = .ok (.istore 6, 2) := dk_54 6 (dk_at dksX1_nearest_0 21 rfl rfl)
theorem dX1_nearest_23 : decode cX1_nearest 23 = .ok (.iload 6, 2) := dk_21 6 (dk_at dksX1_nearest_1 0 rfl rfl)
theorem dX1_nearest_25 : decode cX1_nearest 25 = .ok (.sipush 128, 3) := dk_17 0 128 (dk_at dksX1_nearest_1 2 rfl rfl)
theorem dX1_nearest_28 : decode cX1_nearest 28 = .ok (.if_icmp .ge 61, 3) := dk_162 0 61 (dk_at dksX1_nearest_1 5 rfl rfl)
theorem dX1_nearest_31 : decode cX1_nearest 31 = .ok (.iload 4, 2) := dk_21 4 (dk_at dksX1_nearest_1 8 rfl rfl)
theorem dX1_nearest_33 : decode cX1_nearest 33 = .ok (.iload 6, 2) := dk_21 6 (dk_at dksX1_nearest_1 10 rfl rfl)
theorem dX1_nearest_35 : decode cX1_nearest 35 = .ok (.invokestatic 18, 3) := dk_184 0 18 (dk_at dksX1_nearest_1 12 rfl rfl)
theorem dX1_nearest_38 : decode cX1_nearest 38 = .ok (.istore 7, 2) := dk_54 7 (dk_at dksX1_nearest_1 15 rfl rfl)
theorem dX1_nearest_40 : decode cX1_nearest 40 = .ok (.iconst 0, 1) := dk_3 (dk_at dksX1_nearest_1 17 rfl rfl)
theorem dX1_nearest_41 : decode cX1_nearest 41 = .ok (.istore 8, 2) := dk_54 8 (dk_at dksX1_nearest_1 18 rfl rfl)
theorem dX1_nearest_43 : decode cX1_nearest 43 = .ok (.iload 8, 2) := dk_21 8 (dk_at dksX1_nearest_1 20 rfl rfl)
theorem dX1_nearest_45 : decode cX1_nearest 45 = .ok (.iconst 3, 1) := dk_6 (dk_at dksX1_nearest_1 22 rfl rfl)
theorem dX1_nearest_46 : decode cX1_nearest 46 = .ok (.if_icmp .ge 37, 3) := dk_162 0 37 (dk_at dksX1_nearest_2 0 rfl rfl)
theorem dX1_nearest_49 : decode cX1_nearest 49 = .ok (.aload_n 0, 1) := dk_42 (dk_at dksX1_nearest_2 3 rfl rfl)
theorem dX1_nearest_50 : decode cX1_nearest 50 = .ok (.getfield 13, 3) := dk_180 0 13 (dk_at dksX1_nearest_2 4 rfl rfl)
theorem dX1_nearest_53 : decode cX1_nearest 53 = .ok (.iload_n 1, 1) := dk_27 (dk_at dksX1_nearest_2 7 rfl rfl)
theorem dX1_nearest_54 : decode cX1_nearest 54 = .ok (.sipush 384, 3) := dk_17 1 128 (dk_at dksX1_nearest_2 8 rfl rfl)
theorem dX1_nearest_57 : decode cX1_nearest 57 = .ok (.imul, 1) := dk_104 (dk_at dksX1_nearest_2 11 rfl rfl)
theorem dX1_nearest_58 : decode cX1_nearest 58 = .ok (.iload 8, 2) := dk_21 8 (dk_at dksX1_nearest_2 12 rfl rfl)
theorem dX1_nearest_60 : decode cX1_nearest 60 = .ok (.sipush 128, 3) := dk_17 0 128 (dk_at dksX1_nearest_2 14 rfl rfl)
theorem dX1_nearest_63 : decode cX1_nearest 63 = .ok (.imul, 1) := dk_104 (dk_at dksX1_nearest_2 17 rfl rfl)
theorem dX1_nearest_64 : decode cX1_nearest 64 = .ok (.iadd, 1) := dk_96 (dk_at dksX1_nearest_2 18 rfl rfl)
theorem dX1_nearest_65 : decode cX1_nearest 65 = .ok (.iload 6, 2) := dk_21 6 (dk_at dksX1_nearest_2 19 rfl rfl)
theorem dX1_nearest_67 : decode cX1_nearest 67 = .ok (.iadd, 1) := dk_96 (dk_at dksX1_nearest_2 21 rfl rfl)
theorem dX1_nearest_68 : decode cX1_nearest 68 = .ok (.baload, 1) := dk_51 (dk_at dksX1_nearest_2 22 rfl rfl)
theorem dX1_nearest_69 : decode cX1_nearest 69 = .ok (.iload 7, 2) := dk_21 7 (dk_at dksX1_nearest_3 0 rfl rfl)
theorem dX1_nearest_71 : decode cX1_nearest 71 = .ok (.if_icmp .eq 6, 3) := dk_159 0 6 (dk_at dksX1_nearest_3 2 rfl rfl)
theorem dX1_nearest_74 : decode cX1_nearest 74 = .ok (.iinc 5 1, 3) := dk_132 5 1 (dk_at dksX1_nearest_3 5 rfl rfl)
theorem dX1_nearest_77 : decode cX1_nearest 77 = .ok (.iinc 8 1, 3) := dk_132 8 1 (dk_at dksX1_nearest_3 8 rfl rfl)
theorem dX1_nearest_80 : decode cX1_nearest 80 = .ok (.goto (-37), 3) := dk_167 255 219 (dk_at dksX1_nearest_3 11 rfl rfl)
theorem dX1_nearest_83 : decode cX1_nearest 83 = .ok (.iinc 6 1, 3) := dk_132 6 1 (dk_at dksX1_nearest_3 14 rfl rfl)
theorem dX1_nearest_86 : decode cX1_nearest 86 = .ok (.goto (-63), 3) := dk_167 255 193 (dk_at dksX1_nearest_3 17 rfl rfl)
theorem dX1_nearest_89 : decode cX1_nearest 89 = .ok (.iload 5, 2) := dk_21 5 (dk_at dksX1_nearest_3 20 rfl rfl)
theorem dX1_nearest_91 : decode cX1_nearest 91 = .ok (.iload_n 3, 1) := dk_29 (dk_at dksX1_nearest_3 22 rfl rfl)
theorem dX1_nearest_92 : decode cX1_nearest 92 = .ok (.if_icmp .ge 9, 3) := dk_162 0 9 (dk_at dksX1_nearest_4 0 rfl rfl)
theorem dX1_nearest_95 : decode cX1_nearest 95 = .ok (.iload 5, 2) := dk_21 5 (dk_at dksX1_nearest_4 3 rfl rfl)
theorem dX1_nearest_97 : decode cX1_nearest 97 = .ok (.istore_n 3, 1) := dk_62 (dk_at dksX1_nearest_4 5 rfl rfl)
theorem dX1_nearest_98 : decode cX1_nearest 98 = .ok (.iload 4, 2) := dk_21 4 (dk_at dksX1_nearest_4 6 rfl rfl)
theorem dX1_nearest_100 : decode cX1_nearest 100 = .ok (.istore_n 2, 1) := dk_61 (dk_at dksX1_nearest_4 8 rfl rfl)
theorem dX1_nearest_101 : decode cX1_nearest 101 = .ok (.iinc 4 1, 3) := dk_132 4 1 (dk_at dksX1_nearest_4 9 rfl rfl)
theorem dX1_nearest_104 : decode cX1_nearest 104 = .ok (.goto (-95), 3) := dk_167 255 161 (dk_at dksX1_nearest_4 12 rfl rfl)
theorem dX1_nearest_107 : decode cX1_nearest 107 = .ok (.iload_n 2, 1) := dk_28 (dk_at dksX1_nearest_4 15 rfl rfl)
theorem dX1_nearest_108 : decode cX1_nearest 108 = .ok (.ireturn, 1) := dk_172 (dk_at dksX1_nearest_4 16 rfl rfl)
theorem q3 : (Jvm.Cond.initialized "InnerCodeModel") ∈ lw_all := lw_g (lw_at lw_m0 2 rfl) rfl
theorem q90 : (Jvm.Cond.instantiable "InnerCodeModel" (3 : Nat)) ∈ lw_all := lw_g (lw_at lw_m0 89 rfl) rfl
theorem q92 : (Jvm.Cond.instanceMethod ({ cls := "InnerCodeModel", name := "<init>", desc := "()V" } : Jvm.MethodName)) ∈ lw_all := lw_g (lw_at lw_m0 91 rfl) rfl
theorem q93 : (Jvm.Cond.code ({ cls := "InnerCodeModel", name := "<init>", desc := "()V" } : Jvm.MethodName) prog_3_method_1_code (1 : Nat) (Option.none : Option Jvm.ClassFile.FieldType)) ∈ lw_all := lw_g (lw_at lw_m0 92 rfl) rfl
theorem q94 : (Jvm.Cond.methodLink "InnerCodeModel" (1 : Nat) ({ cls := "java/lang/Object", name := "<init>", desc := "()V" } : Jvm.MethodName)) ∈ lw_all := lw_g (lw_at lw_m0 93 rfl) rfl
theorem q95 : (Jvm.Cond.fieldLink "InnerCodeModel" (7 : Nat) "InnerCodeModel" "letters" "[I") ∈ lw_all := lw_g (lw_at lw_m0 94 rfl) rfl
theorem q96 : (Jvm.Cond.fieldLink "InnerCodeModel" (13 : Nat) "InnerCodeModel" "word" "[Z") ∈ lw_all := lw_g (lw_at lw_m0 95 rfl) rfl
theorem q97 : (Jvm.Cond.fieldLink "InnerCodeModel" (22 : Nat) "InnerCodeModel" "harmed" "I") ∈ lw_all := lw_g (lw_at lw_m0 96 rfl) rfl
theorem q98 : (Jvm.Cond.laysFinal "InnerCodeModel" "InnerCodeModel" "letters" "[I") ∈ lw_all := lw_g (lw_at lw_m0 97 rfl) rfl
theorem q99 : (Jvm.Cond.soleField "InnerCodeModel" "letters") ∈ lw_all := lw_g (lw_at lw_m0 98 rfl) rfl
theorem q100 : (Jvm.Cond.laysFinal "InnerCodeModel" "InnerCodeModel" "word" "[Z") ∈ lw_all := lw_g (lw_at lw_m0 99 rfl) rfl
theorem q101 : (Jvm.Cond.soleField "InnerCodeModel" "word") ∈ lw_all := lw_g (lw_at lw_m0 100 rfl) rfl
theorem q102 : (Jvm.Cond.lays "InnerCodeModel" "InnerCodeModel" "harmed" "I") ∈ lw_all := lw_g (lw_at lw_m0 101 rfl) rfl
theorem q103 : (Jvm.Cond.soleField "InnerCodeModel" "harmed") ∈ lw_all := lw_g (lw_at lw_m0 102 rfl) rfl
theorem q104 : (Jvm.Cond.superclass "InnerCodeModel" "java/lang/Object") ∈ lw_all := lw_g (lw_at lw_m0 103 rfl) rfl
theorem q107 : (Jvm.Cond.instanceMethod ({ cls := "InnerCodeModel", name := "letter", desc := "(II)V" } : Jvm.MethodName)) ∈ lw_all := lw_g (lw_at lw_m0 106 rfl) rfl
theorem q108 : (Jvm.Cond.selects "InnerCodeModel" ({ cls := "InnerCodeModel", name := "letter", desc := "(II)V" } : Jvm.MethodName) ({ cls := "InnerCodeModel", name := "letter", desc := "(II)V" } : Jvm.MethodName)) ∈ lw_all := lw_g (lw_at lw_m0 107 rfl) rfl
theorem q109 : (Jvm.Cond.code ({ cls := "InnerCodeModel", name := "letter", desc := "(II)V" } : Jvm.MethodName) prog_3_method_4_code (3 : Nat) (Option.none : Option Jvm.ClassFile.FieldType)) ∈ lw_all := lw_g (lw_at lw_m0 108 rfl) rfl
theorem q111 : (Jvm.Cond.instanceMethod ({ cls := "InnerCodeModel", name := "letter", desc := "(I)I" } : Jvm.MethodName)) ∈ lw_all := lw_g (lw_at lw_m0 110 rfl) rfl
theorem q112 : (Jvm.Cond.selects "InnerCodeModel" ({ cls := "InnerCodeModel", name := "letter", desc := "(I)I" } : Jvm.MethodName) ({ cls := "InnerCodeModel", name := "letter", desc := "(I)I" } : Jvm.MethodName)) ∈ lw_all := lw_g (lw_at lw_m0 111 rfl) rfl
theorem q113 : (Jvm.Cond.code ({ cls := "InnerCodeModel", name := "letter", desc := "(I)I" } : Jvm.MethodName) prog_3_method_5_code (2 : Nat) (Option.some Jvm.ClassFile.FieldType.int)) ∈ lw_all := lw_g (lw_at lw_m0 112 rfl) rfl
theorem q115 : (Jvm.Cond.instanceMethod ({ cls := "InnerCodeModel", name := "write", desc := "()V" } : Jvm.MethodName)) ∈ lw_all := lw_g (lw_at lw_m0 114 rfl) rfl
theorem q116 : (Jvm.Cond.selects "InnerCodeModel" ({ cls := "InnerCodeModel", name := "write", desc := "()V" } : Jvm.MethodName) ({ cls := "InnerCodeModel", name := "write", desc := "()V" } : Jvm.MethodName)) ∈ lw_all := lw_g (lw_at lw_m0 115 rfl) rfl
theorem q117 : (Jvm.Cond.code ({ cls := "InnerCodeModel", name := "write", desc := "()V" } : Jvm.MethodName) prog_3_method_6_code (4 : Nat) (Option.none : Option Jvm.ClassFile.FieldType)) ∈ lw_all := lw_g (lw_at lw_m0 116 rfl) rfl
theorem q118 : (Jvm.Cond.methodLink "InnerCodeModel" (18 : Nat) ({ cls := "InnerCodeModel", name := "place", desc := "(II)Z" } : Jvm.MethodName)) ∈ lw_all := lw_g (lw_at lw_m0 117 rfl) rfl
theorem q119 : (Jvm.Cond.static ({ cls := "InnerCodeModel", name := "place", desc := "(II)Z" } : Jvm.MethodName)) ∈ lw_all := lw_g (lw_at lw_m0 118 rfl) rfl
theorem q120 : (Jvm.Cond.code ({ cls := "InnerCodeModel", name := "place", desc := "(II)Z" } : Jvm.MethodName) prog_3_method_2_code (4 : Nat) (Option.some Jvm.ClassFile.FieldType.boolean)) ∈ lw_all := lw_g (lw_at lw_m0 119 rfl) rfl
theorem q122 : (Jvm.Cond.instanceMethod ({ cls := "InnerCodeModel", name := "harm", desc := "(I)Z" } : Jvm.MethodName)) ∈ lw_all := lw_g (lw_at lw_m0 121 rfl) rfl
theorem q123 : (Jvm.Cond.selects "InnerCodeModel" ({ cls := "InnerCodeModel", name := "harm", desc := "(I)Z" } : Jvm.MethodName) ({ cls := "InnerCodeModel", name := "harm", desc := "(I)Z" } : Jvm.MethodName)) ∈ lw_all := lw_g (lw_at lw_m0 122 rfl) rfl
theorem q124 : (Jvm.Cond.code ({ cls := "InnerCodeModel", name := "harm", desc := "(I)Z" } : Jvm.MethodName) prog_3_method_7_code (3 : Nat) (Option.some Jvm.ClassFile.FieldType.boolean)) ∈ lw_all := lw_g (lw_at lw_m0 123 rfl) rfl
theorem q125 : (Jvm.Cond.methodLink "InnerCodeModel" (26 : Nat) ({ cls := "InnerCodeModel", name := "spot", desc := "(I)I" } : Jvm.MethodName)) ∈ lw_all := lw_g (lw_at lw_m0 124 rfl) rfl
theorem q126 : (Jvm.Cond.static ({ cls := "InnerCodeModel", name := "spot", desc := "(I)I" } : Jvm.MethodName)) ∈ lw_all := lw_g (lw_at lw_m0 125 rfl) rfl
theorem q127 : (Jvm.Cond.code ({ cls := "InnerCodeModel", name := "spot", desc := "(I)I" } : Jvm.MethodName) prog_3_method_3_code (1 : Nat) (Option.some Jvm.ClassFile.FieldType.int)) ∈ lw_all := lw_g (lw_at lw_m0 126 rfl) rfl
theorem q128 : (Jvm.Cond.constant "InnerCodeModel" (17 : Nat) (2147483647 : Int32)) ∈ lw_all := lw_g (lw_at lw_m0 127 rfl) rfl
theorem q130 : (Jvm.Cond.instanceMethod ({ cls := "InnerCodeModel", name := "bit", desc := "(I)I" } : Jvm.MethodName)) ∈ lw_all := lw_g (lw_at lw_m0 129 rfl) rfl
theorem q131 : (Jvm.Cond.selects "InnerCodeModel" ({ cls := "InnerCodeModel", name := "bit", desc := "(I)I" } : Jvm.MethodName) ({ cls := "InnerCodeModel", name := "bit", desc := "(I)I" } : Jvm.MethodName)) ∈ lw_all := lw_g (lw_at lw_m0 130 rfl) rfl
theorem q132 : (Jvm.Cond.code ({ cls := "InnerCodeModel", name := "bit", desc := "(I)I" } : Jvm.MethodName) prog_3_method_8_code (2 : Nat) (Option.some Jvm.ClassFile.FieldType.int)) ∈ lw_all := lw_g (lw_at lw_m0 131 rfl) rfl
theorem q134 : (Jvm.Cond.instanceMethod ({ cls := "InnerCodeModel", name := "read", desc := "()I" } : Jvm.MethodName)) ∈ lw_all := lw_g (lw_at lw_m0 133 rfl) rfl
theorem q135 : (Jvm.Cond.selects "InnerCodeModel" ({ cls := "InnerCodeModel", name := "read", desc := "()I" } : Jvm.MethodName) ({ cls := "InnerCodeModel", name := "read", desc := "()I" } : Jvm.MethodName)) ∈ lw_all := lw_g (lw_at lw_m0 134 rfl) rfl
theorem q136 : (Jvm.Cond.code ({ cls := "InnerCodeModel", name := "read", desc := "()I" } : Jvm.MethodName) prog_3_method_10_code (3 : Nat) (Option.some Jvm.ClassFile.FieldType.int)) ∈ lw_all := lw_g (lw_at lw_m0 135 rfl) rfl
theorem q137 : (Jvm.Cond.methodLink "InnerCodeModel" (30 : Nat) ({ cls := "InnerCodeModel", name := "nearest", desc := "(I)I" } : Jvm.MethodName)) ∈ lw_all := lw_g (lw_at lw_m0 136 rfl) rfl
theorem q138 : (Jvm.Cond.privateMethod ({ cls := "InnerCodeModel", name := "nearest", desc := "(I)I" } : Jvm.MethodName)) ∈ lw_tbl := lw_at lw_m0 137 rfl
theorem q139 : (Jvm.Cond.instanceMethod ({ cls := "InnerCodeModel", name := "nearest", desc := "(I)I" } : Jvm.MethodName)) ∈ lw_all := lw_g (lw_at lw_m0 138 rfl) rfl
theorem q140 : (Jvm.Cond.code ({ cls := "InnerCodeModel", name := "nearest", desc := "(I)I" } : Jvm.MethodName) prog_3_method_9_code (9 : Nat) (Option.some Jvm.ClassFile.FieldType.int)) ∈ lw_all := lw_g (lw_at lw_m0 139 rfl) rfl
theorem in_X1 : ∀ w ∈ wsX10, w ∈ lw_all := lw_in wsX10 [98, 100, 102] (by decide +kernel) (by decide +kernel)
/-! ReedMuller -/
set_option maxRecDepth 100000
def RX2 : String := "ReedMuller"
abbrev cX2_encode : ByteArray := prog_4_method_7_code
def yX2_encode : MethodName := ⟨RX2, "encode", "([J[BII)V"⟩
def dkwX2_encode_4 : List UInt8 := [132, 11, 1, 167, 255, 230, 132, 6, 1, 167, 255, 166, 177]
abbrev dktX2_encode_4 : List UInt8 := dkwX2_encode_4 ++ []
def dkwX2_encode_3 : List UInt8 := [21, 11, 29, 162, 0, 26, 42, 21, 5, 22, 7, 80, 42, 21, 5, 4, 96, 22, 9, 80, 132, 5, 2]
abbrev dktX2_encode_3 : List UInt8 := dkwX2_encode_3 ++ dktX2_encode_4
def dkwX2_encode_2 : List UInt8 := [25, 4, 5, 46, 133, 20, 0, 28, 127, 25, 4, 6, 46, 133, 16, 32, 121, 129, 55, 9, 3, 54, 11]
abbrev dktX2_encode_2 : List UInt8 := dkwX2_encode_2 ++ dktX2_encode_3
def dkwX2_encode_1 : List UInt8 := [184, 0, 24, 25, 4, 3, 46, 133, 20, 0, 28, 127, 25, 4, 4, 46, 133, 16, 32, 121, 129, 55, 7]
abbrev dktX2_encode_1 : List UInt8 := dkwX2_encode_1 ++ dktX2_encode_2
def dkwX2_encode_0 : List UInt8 := [7, 188, 10, 58, 4, 3, 54, 5, 3, 54, 6, 21, 6, 28, 162, 0, 90, 25, 4, 43, 21, 6, 51]
abbrev dktX2_encode_0 : List UInt8 := dkwX2_encode_0 ++ dktX2_encode_1
theorem dksX2_encode_0 : cX2_encode.data.toList.drop 0 = dktX2_encode_0 := by decide +kernel
theorem dksX2_encode_1 : cX2_encode.data.toList.drop 23 = dktX2_encode_1 := dk_seg dksX2_encode_0 23 rfl rfl
theorem dksX2_encode_2 : cX2_encode.data.toList.drop 46 = dktX2_encode_2 := dk_seg dksX2_encode_1 23 rfl rfl
theorem dksX2_encode_3 : cX2_encode.data.toList.drop 69 = dktX2_encode_3 := dk_seg dksX2_encode_2 23 rfl rfl
theorem dksX2_encode_4 : cX2_encode.data.toList.drop 92 = dktX2_encode_4 := dk_seg dksX2_encode_3 23 rfl rfl
theorem dX2_encode_0 : decode cX2_encode 0 = .ok (.iconst 4, 1) := dk_7 (dk_at dksX2_encode_0 0 rfl rfl)
theorem dX2_encode_1 : decode cX2_encode 1 = .ok (.newarray .int, 2) := dk_188_10 (dk_at dksX2_encode_0 1 rfl rfl)
theorem dX2_encode_3 : decode cX2_encode 3 = .ok (.astore 4, 2) := dk_58 4 (dk_at dksX2_encode_0 3 rfl rfl)
theorem dX2_encode_5 : decode cX2_encode 5 = .ok (.iconst 0, 1) := dk_3 (dk_at dksX2_encode_0 5 rfl rfl)
theorem dX2_encode_6 : decode cX2_encode 6 = .ok (.istore 5, 2) := dk_54 5 (dk_at dksX2_encode_0 6 rfl rfl)
theorem dX2_encode_8 : decode cX2_encode 8 = .ok (.iconst 0, 1) := dk_3 (dk_at dksX2_encode_0 8 rfl rfl)
theorem dX2_encode_9 : decode cX2_encode 9 = .ok (.istore 6, 2) := dk_54 6 (dk_at dksX2_encode_0 9 rfl rfl)
theorem dX2_encode_11 : decode cX2_encode 11 = .ok (.iload 6, 2) := dk_21 6 (dk_at dksX2_encode_0 11 rfl rfl)
theorem dX2_encode_13 : decode cX2_encode 13 = .ok (.iload_n 2, 1) := dk_28 (dk_at dksX2_encode_0 13 rfl rfl)
theorem dX2_encode_14 : decode cX2_encode 14 = .ok (.if_icmp .ge 90, 3) := dk_162 0 90 (dk_at dksX2_encode_0 14 rfl rfl)
theorem dX2_encode_17 : decode cX2_encode 17 = .ok (.aload 4, 2) := dk_25 4 (dk_at dksX2_encode_0 17 rfl rfl)
theorem dX2_encode_19 : decode cX2_encode 19 = .ok (.aload_n 1, 1) := dk_43 (dk_at dksX2_encode_0 19 rfl rfl)
theorem dX2_encode_20 : decode cX2_encode 20 = .ok (.iload 6, 2) := dk_21 6 (dk_at dksX2_encode_0 20 rfl rfl)
theorem dX2_encode_22 : decode cX2_encode 22 = .ok (.baload, 1) := dk_51 (dk_at dksX2_encode_0 22 rfl rfl)
theorem dX2_encode_23 : decode cX2_encode 23 = .ok (.invokestatic 24, 3) := dk_184 0 24 (dk_at dksX2_encode_1 0 rfl rfl)
theorem dX2_encode_26 : decode cX2_encode 26 = .ok (.aload 4, 2) := dk_25 4 (dk_at dksX2_encode_1 3 rfl rfl)
theorem dX2_encode_28 : decode cX2_encode 28 = .ok (.iconst 0, 1) := dk_3 (dk_at dksX2_encode_1 5 rfl rfl)
theorem dX2_encode_29 : decode cX2_encode 29 = .ok (.iaload, 1) := dk_46 (dk_at dksX2_encode_1 6 rfl rfl)
theorem dX2_encode_30 : decode cX2_encode 30 = .ok (.i2l, 1) := dk_133 (dk_at dksX2_encode_1 7 rfl rfl)
theorem dX2_encode_31 : decode cX2_encode 31 = .ok (.ldc2_w 28, 3) := dk_20 0 28 (dk_at dksX2_encode_1 8 rfl rfl)
theorem dX2_encode_34 : decode cX2_encode 34 = .ok (.land, 1) := dk_127 (dk_at dksX2_encode_1 11 rfl rfl)
theorem dX2_encode_35 : decode cX2_encode 35 = .ok (.aload 4, 2) := dk_25 4 (dk_at dksX2_encode_1 12 rfl rfl)
theorem dX2_encode_37 : decode cX2_encode 37 = .ok (.iconst 1, 1) := dk_4 (dk_at dksX2_encode_1 14 rfl rfl)
theorem dX2_encode_38 : decode cX2_encode 38 = .ok (.iaload, 1) := dk_46 (dk_at dksX2_encode_1 15 rfl rfl)
theorem dX2_encode_39 : decode cX2_encode 39 = .ok (.i2l, 1) := dk_133 (dk_at dksX2_encode_1 16 rfl rfl)
theorem dX2_encode_40 : decode cX2_encode 40 = .ok (.bipush 32, 2) := dk_16 32 (dk_at dksX2_encode_1 17 rfl rfl)
theorem dX2_encode_42 : decode cX2_encode 42 = .ok (.lshl, 1) := dk_121 (dk_at dksX2_encode_1 19 rfl rfl)
theorem dX2_encode_43 : decode cX2_encode 43 = .ok (.lor, 1) := dk_129 (dk_at dksX2_encode_1 20 rfl rfl)
theorem dX2_encode_44 : decode cX2_encode 44 = .ok (.lstore 7, 2) := dk_55 7 (dk_at dksX2_encode_1 21 rfl rfl)
theorem dX2_encode_46 : decode cX2_encode 46 = .ok (.aload 4, 2) := dk_25 4 (dk_at dksX2_encode_2 0 rfl rfl)
theorem dX2_encode_48 : decode cX2_encode 48 = .ok (.iconst 2, 1) := dk_5 (dk_at dksX2_encode_2 2 rfl rfl)
theorem dX2_encode_49 : decode cX2_encode 49 = .ok (.iaload, 1) := dk_46 (dk_at dksX2_encode_2 3 rfl rfl)
theorem dX2_encode_50 : decode cX2_encode 50 = .ok (.i2l, 1) := dk_133 (dk_at dksX2_encode_2 4 rfl rfl)
theorem dX2_encode_51 : decode cX2_encode 51 = .ok (.ldc2_w 28, 3) := dk_20 0 28 (dk_at dksX2_encode_2 5 rfl rfl)
theorem dX2_encode_54 : decode cX2_encode 54 = .ok (.land, 1) := dk_127 (dk_at dksX2_encode_2 8 rfl rfl)
theorem dX2_encode_55 : decode cX2_encode 55 = .ok (.aload 4, 2) := dk_25 4 (dk_at dksX2_encode_2 9 rfl rfl)
theorem dX2_encode_57 : decode cX2_encode 57 = .ok (.iconst 3, 1) := dk_6 (dk_at dksX2_encode_2 11 rfl rfl)
theorem dX2_encode_58 : decode cX2_encode 58 = .ok (.iaload, 1) := dk_46 (dk_at dksX2_encode_2 12 rfl rfl)
theorem dX2_encode_59 : decode cX2_encode 59 = .ok (.i2l, 1) := dk_133 (dk_at dksX2_encode_2 13 rfl rfl)
theorem dX2_encode_60 : decode cX2_encode 60 = .ok (.bipush 32, 2) := dk_16 32 (dk_at dksX2_encode_2 14 rfl rfl)
theorem dX2_encode_62 : decode cX2_encode 62 = .ok (.lshl, 1) := dk_121 (dk_at dksX2_encode_2 16 rfl rfl)
theorem dX2_encode_63 : decode cX2_encode 63 = .ok (.lor, 1) := dk_129 (dk_at dksX2_encode_2 17 rfl rfl)
theorem dX2_encode_64 : decode cX2_encode 64 = .ok (.lstore 9, 2) := dk_55 9 (dk_at dksX2_encode_2 18 rfl rfl)
theorem dX2_encode_66 : decode cX2_encode 66 = .ok (.iconst 0, 1) := dk_3 (dk_at dksX2_encode_2 20 rfl rfl)
theorem dX2_encode_67 : decode cX2_encode 67 = .ok (.istore 11, 2) := dk_54 11 (dk_at dksX2_encode_2 21 rfl rfl)
theorem dX2_encode_69 : decode cX2_encode 69 = .ok (.iload 11, 2) := dk_21 11 (dk_at dksX2_encode_3 0 rfl rfl)
theorem dX2_encode_71 : decode cX2_encode 71 = .ok (.iload_n 3, 1) := dk_29 (dk_at dksX2_encode_3 2 rfl rfl)
theorem dX2_encode_72 : decode cX2_encode 72 = .ok (.if_icmp .ge 26, 3) := dk_162 0 26 (dk_at dksX2_encode_3 3 rfl rfl)
theorem dX2_encode_75 : decode cX2_encode 75 = .ok (.aload_n 0, 1) := dk_42 (dk_at dksX2_encode_3 6 rfl rfl)
theorem dX2_encode_76 : decode cX2_encode 76 = .ok (.iload 5, 2) := dk_21 5 (dk_at dksX2_encode_3 7 rfl rfl)
theorem dX2_encode_78 : decode cX2_encode 78 = .ok (.lload 7, 2) := dk_22 7 (dk_at dksX2_encode_3 9 rfl rfl)
theorem dX2_encode_80 : decode cX2_encode 80 = .ok (.lastore, 1) := dk_80 (dk_at dksX2_encode_3 11 rfl rfl)
theorem dX2_encode_81 : decode cX2_encode 81 = .ok (.aload_n 0, 1) := dk_42 (dk_at dksX2_encode_3 12 rfl rfl)
theorem dX2_encode_82 : decode cX2_encode 82 = .ok (.iload 5, 2) := dk_21 5 (dk_at dksX2_encode_3 13 rfl rfl)
theorem dX2_encode_84 : decode cX2_encode 84 = .ok (.iconst 1, 1) := dk_4 (dk_at dksX2_encode_3 15 rfl rfl)
theorem dX2_encode_85 : decode cX2_encode 85 = .ok (.iadd, 1) := dk_96 (dk_at dksX2_encode_3 16 rfl rfl)
theorem dX2_encode_86 : decode cX2_encode 86 = .ok (.lload 9, 2) := dk_22 9 (dk_at dksX2_encode_3 17 rfl rfl)
theorem dX2_encode_88 : decode cX2_encode 88 = .ok (.lastore, 1) := dk_80 (dk_at dksX2_encode_3 19 rfl rfl)
theorem dX2_encode_89 : decode cX2_encode 89 = .ok (.iinc 5 2, 3) := dk_132 5 2 (dk_at dksX2_encode_3 20 rfl rfl)
theorem dX2_encode_92 : decode cX2_encode 92 = .ok (.iinc 11 1, 3) := dk_132 11 1 (dk_at dksX2_encode_4 0 rfl rfl)
theorem dX2_encode_95 : decode cX2_encode 95 = .ok (.goto (-26), 3) := dk_167 255 230 (dk_at dksX2_encode_4 3 rfl rfl)
theorem dX2_encode_98 : decode cX2_encode 98 = .ok (.iinc 6 1, 3) := dk_132 6 1 (dk_at dksX2_encode_4 6 rfl rfl)
theorem dX2_encode_101 : decode cX2_encode 101 = .ok (.goto (-90), 3) := dk_167 255 166 (dk_at dksX2_encode_4 9 rfl rfl)
theorem dX2_encode_104 : decode cX2_encode 104 = .ok (.return_, 1) := dk_177 (dk_at dksX2_encode_4 12 rfl rfl)
abbrev cX2_encodeSub : ByteArray := prog_4_method_2_code
def yX2_encodeSub : MethodName := ⟨RX2, "encodeSub", "([II)V"⟩
def dkwX2_encodeSub_4 : List UInt8 := [6, 28, 79, 28, 27, 8, 122, 184, 0, 7, 130, 61, 42, 5, 28, 79, 177]
abbrev dktX2_encodeSub_4 : List UInt8 := dkwX2_encodeSub_4 ++ []
def dkwX2_encodeSub_3 : List UInt8 := [28, 27, 8, 122, 184, 0, 7, 130, 61, 42, 4, 28, 79, 28, 27, 16, 6, 122, 184, 0, 7, 130, 61, 42]
abbrev dktX2_encodeSub_3 : List UInt8 := dkwX2_encodeSub_3 ++ dktX2_encodeSub_4
def dkwX2_encodeSub_2 : List UInt8 := [184, 0, 7, 18, 16, 126, 130, 61, 28, 27, 7, 122, 184, 0, 7, 18, 17, 126, 130, 61, 42, 3, 28, 79]
abbrev dktX2_encodeSub_2 : List UInt8 := dkwX2_encodeSub_2 ++ dktX2_encodeSub_3
def dkwX2_encodeSub_1 : List UInt8 := [184, 0, 7, 18, 14, 126, 130, 61, 28, 27, 5, 122, 184, 0, 7, 18, 15, 126, 130, 61, 28, 27, 6, 122]
abbrev dktX2_encodeSub_1 : List UInt8 := dkwX2_encodeSub_1 ++ dktX2_encodeSub_2
def dkwX2_encodeSub_0 : List UInt8 := [27, 16, 7, 122, 184, 0, 7, 61, 28, 27, 184, 0, 7, 18, 13, 126, 130, 61, 28, 27, 4, 122]
abbrev dktX2_encodeSub_0 : List UInt8 := dkwX2_encodeSub_0 ++ dktX2_encodeSub_1
theorem dksX2_encodeSub_0 : cX2_encodeSub.data.toList.drop 0 = dktX2_encodeSub_0 := by decide +kernel
theorem dksX2_encodeSub_1 : cX2_encodeSub.data.toList.drop 22 = dktX2_encodeSub_1 := dk_seg dksX2_encodeSub_0 22 rfl rfl
theorem dksX2_encodeSub_2 : cX2_encodeSub.data.toList.drop 46 = dktX2_encodeSub_2 := dk_seg dksX2_encodeSub_1 24 rfl rfl
theorem dksX2_encodeSub_3 : cX2_encodeSub.data.toList.drop 70 = dktX2_encodeSub_3 := dk_seg dksX2_encodeSub_2 24 rfl rfl
theorem dksX2_encodeSub_4 : cX2_encodeSub.data.toList.drop 94 = dktX2_encodeSub_4 := dk_seg dksX2_encodeSub_3 24 rfl rfl
theorem dX2_encodeSub_0 : decode cX2_encodeSub 0 = .ok (.iload_n 1, 1) := dk_27 (dk_at dksX2_encodeSub_0 0 rfl rfl)
theorem dX2_encodeSub_1 : decode cX2_encodeSub 1 = .ok (.bipush 7, 2) := dk_16 7 (dk_at dksX2_encodeSub_0 1 rfl rfl)
theorem dX2_encodeSub_3 : decode cX2_encodeSub 3 = .ok (.ishr, 1) := dk_122 (dk_at dksX2_encodeSub_0 3 rfl rfl)
theorem dX2_encodeSub_4 : decode cX2_encodeSub 4 = .ok (.invokestatic 7, 3) := dk_184 0 7 (dk_at dksX2_encodeSub_0 4 rfl rfl)
theorem dX2_encodeSub_7 : decode cX2_encodeSub 7 = .ok (.istore_n 2, 1) := dk_61 (dk_at dksX2_encodeSub_0 7 rfl rfl)
theorem dX2_encodeSub_8 : decode cX2_encodeSub 8 = .ok (.iload_n 2, 1) := dk_28 (dk_at dksX2_encodeSub_0 8 rfl rfl)
theorem dX2_encodeSub_9 : decode cX2_encodeSub 9 = .ok (.iload_n 1, 1) := dk_27 (dk_at dksX2_encodeSub_0 9 rfl rfl)
theorem dX2_encodeSub_10 : decode cX2_encodeSub 10 = .ok (.invokestatic 7, 3) := dk_184 0 7 (dk_at dksX2_encodeSub_0 10 rfl rfl)
theorem dX2_encodeSub_13 : decode cX2_encodeSub 13 = .ok (.ldc 13, 2) := dk_18 13 (dk_at dksX2_encodeSub_0 13 rfl rfl)
theorem dX2_encodeSub_15 : decode cX2_encodeSub 15 = .ok (.iand, 1) := dk_126 (dk_at dksX2_encodeSub_0 15 rfl rfl)
theorem dX2_encodeSub_16 : decode cX2_encodeSub 16 = .ok (.ixor, 1) := dk_130 (dk_at dksX2_encodeSub_0 16 rfl rfl)
theorem dX2_encodeSub_17 : decode cX2_encodeSub 17 = .ok (.istore_n 2, 1) := dk_61 (dk_at dksX2_encodeSub_0 17 rfl rfl)
theorem dX2_encodeSub_18 : decode cX2_encodeSub 18 = .ok (.iload_n 2, 1) := dk_28 (dk_at dksX2_encodeSub_0 18 rfl rfl)
theorem dX2_encodeSub_19 : decode cX2_encodeSub 19 = .ok (.iload_n 1, 1) := dk_27 (dk_at dksX2_encodeSub_0 19 rfl rfl)
theorem dX2_encodeSub_20 : decode cX2_encodeSub 20 = .ok (.iconst 1, 1) := dk_4 (dk_at dksX2_encodeSub_0 20 rfl rfl)
theorem dX2_encodeSub_21 : decode cX2_encodeSub 21 = .ok (.ishr, 1) := dk_122 (dk_at dksX2_encodeSub_0 21 rfl rfl)
theorem dX2_encodeSub_22 : decode cX2_encodeSub 22 = .ok (.invokestatic 7, 3) := dk_184 0 7 (dk_at dksX2_encodeSub_1 0 rfl rfl)
theorem dX2_encodeSub_25 : decode cX2_encodeSub 25 = .ok (.ldc 14, 2) := dk_18 14 (dk_at dksX2_encodeSub_1 3 rfl rfl)
theorem dX2_encodeSub_27 : decode cX2_encodeSub 27 = .ok (.iand, 1) := dk_126 (dk_at dksX2_encodeSub_1 5 rfl rfl)
theorem dX2_encodeSub_28 : decode cX2_encodeSub 28 = .ok (.ixor, 1) := dk_130 (dk_at dksX2_encodeSub_1 6 rfl rfl)
theorem dX2_encodeSub_29 : decode cX2_encodeSub 29 = .ok (.istore_n 2, 1) := dk_61 (dk_at dksX2_encodeSub_1 7 rfl rfl)
theorem dX2_encodeSub_30 : decode cX2_encodeSub 30 = .ok (.iload_n 2, 1) := dk_28 (dk_at dksX2_encodeSub_1 8 rfl rfl)
theorem dX2_encodeSub_31 : decode cX2_encodeSub 31 = .ok (.iload_n 1, 1) := dk_27 (dk_at dksX2_encodeSub_1 9 rfl rfl)
theorem dX2_encodeSub_32 : decode cX2_encodeSub 32 = .ok (.iconst 2, 1) := dk_5 (dk_at dksX2_encodeSub_1 10 rfl rfl)
theorem dX2_encodeSub_33 : decode cX2_encodeSub 33 = .ok (.ishr, 1) := dk_122 (dk_at dksX2_encodeSub_1 11 rfl rfl)
theorem dX2_encodeSub_34 : decode cX2_encodeSub 34 = .ok (.invokestatic 7, 3) := dk_184 0 7 (dk_at dksX2_encodeSub_1 12 rfl rfl)
theorem dX2_encodeSub_37 : decode cX2_encodeSub 37 = .ok (.ldc 15, 2) := dk_18 15 (dk_at dksX2_encodeSub_1 15 rfl rfl)
theorem dX2_encodeSub_39 : decode cX2_encodeSub 39 = .ok (.iand, 1) := dk_126 (dk_at dksX2_encodeSub_1 17 rfl rfl)
theorem dX2_encodeSub_40 : decode cX2_encodeSub 40 = .ok (.ixor, 1) := dk_130 (dk_at dksX2_encodeSub_1 18 rfl rfl)
theorem dX2_encodeSub_41 : decode cX2_encodeSub 41 = .ok (.istore_n 2, 1) := dk_61 (dk_at dksX2_encodeSub_1 19 rfl rfl)
theorem dX2_encodeSub_42 : decode cX2_encodeSub 42 = .ok (.iload_n 2, 1) := dk_28 (dk_at dksX2_encodeSub_1 20 rfl rfl)
theorem dX2_encodeSub_43 : decode cX2_encodeSub 43 = .ok (.iload_n 1, 1) := dk_27 (dk_at dksX2_encodeSub_1 21 rfl rfl)
theorem dX2_encodeSub_44 : decode cX2_encodeSub 44 = .ok (.iconst 3, 1) := dk_6 (dk_at dksX2_encodeSub_1 22 rfl rfl)
theorem dX2_encodeSub_45 : decode cX2_encodeSub 45 = .ok (.ishr, 1) := dk_122 (dk_at dksX2_encodeSub_1 23 rfl rfl)
theorem dX2_encodeSub_46 : decode cX2_encodeSub 46 = .ok (.invokestatic 7, 3) := dk_184 0 7 (dk_at dksX2_encodeSub_2 0 rfl rfl)
theorem dX2_encodeSub_49 : decode cX2_encodeSub 49 = .ok (.ldc 16, 2) := dk_18 16 (dk_at dksX2_encodeSub_2 3 rfl rfl)
theorem dX2_encodeSub_51 : decode cX2_encodeSub 51 = .ok (.iand, 1) := dk_126 (dk_at dksX2_encodeSub_2 5 rfl rfl)
theorem dX2_encodeSub_52 : decode cX2_encodeSub 52 = .ok (.ixor, 1) := dk_130 (dk_at dksX2_encodeSub_2 6 rfl rfl)
theorem dX2_encodeSub_53 : decode cX2_encodeSub 53 = .ok (.istore_n 2, 1) := dk_61 (dk_at dksX2_encodeSub_2 7 rfl rfl)
theorem dX2_encodeSub_54 : decode cX2_encodeSub 54 = .ok (.iload_n 2, 1) := dk_28 (dk_at dksX2_encodeSub_2 8 rfl rfl)
theorem dX2_encodeSub_55 : decode cX2_encodeSub 55 = .ok (.iload_n 1, 1) := dk_27 (dk_at dksX2_encodeSub_2 9 rfl rfl)
theorem dX2_encodeSub_56 : decode cX2_encodeSub 56 = .ok (.iconst 4, 1) := dk_7 (dk_at dksX2_encodeSub_2 10 rfl rfl)
theorem dX2_encodeSub_57 : decode cX2_encodeSub 57 = .ok (.ishr, 1) := dk_122 (dk_at dksX2_encodeSub_2 11 rfl rfl)
theorem dX2_encodeSub_58 : decode cX2_encodeSub 58 = .ok (.invokestatic 7, 3) := dk_184 0 7 (dk_at dksX2_encodeSub_2 12 rfl rfl)
theorem dX2_encodeSub_61 : decode cX2_encodeSub 61 = .ok (.ldc 17, 2) := dk_18 17 (dk_at dksX2_encodeSub_2 15 rfl rfl)
theorem dX2_encodeSub_63 : decode cX2_encodeSub 63 = .ok (.iand, 1) := dk_126 (dk_at dksX2_encodeSub_2 17 rfl rfl)
theorem dX2_encodeSub_64 : decode cX2_encodeSub 64 = .ok (.ixor, 1) := dk_130 (dk_at dksX2_encodeSub_2 18 rfl rfl)
theorem dX2_encodeSub_65 : decode cX2_encodeSub 65 = .ok (.istore_n 2, 1) := dk_61 (dk_at dksX2_encodeSub_2 19 rfl rfl)
theorem dX2_encodeSub_66 : decode cX2_encodeSub 66 = .ok (.aload_n 0, 1) := dk_42 (dk_at dksX2_encodeSub_2 20 rfl rfl)
theorem dX2_encodeSub_67 : decode cX2_encodeSub 67 = .ok (.iconst 0, 1) := dk_3 (dk_at dksX2_encodeSub_2 21 rfl rfl)
theorem dX2_encodeSub_68 : decode cX2_encodeSub 68 = .ok (.iload_n 2, 1) := dk_28 (dk_at dksX2_encodeSub_2 22 rfl rfl)
theorem dX2_encodeSub_69 : decode cX2_encodeSub 69 = .ok (.iastore, 1) := dk_79 (dk_at dksX2_encodeSub_2 23 rfl rfl)
theorem dX2_encodeSub_70 : decode cX2_encodeSub 70 = .ok (.iload_n 2, 1) := dk_28 (dk_at dksX2_encodeSub_3 0 rfl rfl)
theorem dX2_encodeSub_71 : decode cX2_encodeSub 71 = .ok (.iload_n 1, 1) := dk_27 (dk_at dksX2_encodeSub_3 1 rfl rfl)
theorem dX2_encodeSub_72 : decode cX2_encodeSub 72 = .ok (.iconst 5, 1) := dk_8 (dk_at dksX2_encodeSub_3 2 rfl rfl)
theorem dX2_encodeSub_73 : decode cX2_encodeSub 73 = .ok (.ishr, 1) := dk_122 (dk_at dksX2_encodeSub_3 3 rfl rfl)
theorem dX2_encodeSub_74 : decode cX2_encodeSub 74 = .ok (.invokestatic 7, 3) := dk_184 0 7 (dk_at dksX2_encodeSub_3 4 rfl rfl)
theorem dX2_encodeSub_77 : decode cX2_encodeSub 77 = .ok (.ixor, 1) := dk_130 (dk_at dksX2_encodeSub_3 7 rfl rfl)
theorem dX2_encodeSub_78 : decode cX2_encodeSub 78 = .ok (.istore_n 2, 1) := dk_61 (dk_at dksX2_encodeSub_3 8 rfl rfl)
theorem dX2_encodeSub_79 : decode cX2_encodeSub 79 = .ok (.aload_n 0, 1) := dk_42 (dk_at dksX2_encodeSub_3 9 rfl rfl)
theorem dX2_encodeSub_80 : decode cX2_encodeSub 80 = .ok (.iconst 1, 1) := dk_4 (dk_at dksX2_encodeSub_3 10 rfl rfl)
theorem dX2_encodeSub_81 : decode cX2_encodeSub 81 = .ok (.iload_n 2, 1) := dk_28 (dk_at dksX2_encodeSub_3 11 rfl rfl)
theorem dX2_encodeSub_82 : decode cX2_encodeSub 82 = .ok (.iastore, 1) := dk_79 (dk_at dksX2_encodeSub_3 12 rfl rfl)
theorem dX2_encodeSub_83 : decode cX2_encodeSub 83 = .ok (.iload_n 2, 1) := dk_28 (dk_at dksX2_encodeSub_3 13 rfl rfl)
theorem dX2_encodeSub_84 : decode cX2_encodeSub 84 = .ok (.iload_n 1, 1) := dk_27 (dk_at dksX2_encodeSub_3 14 rfl rfl)
theorem dX2_encodeSub_85 : decode cX2_encodeSub 85 = .ok (.bipush 6, 2) := dk_16 6 (dk_at dksX2_encodeSub_3 15 rfl rfl)
theorem dX2_encodeSub_87 : decode cX2_encodeSub 87 = .ok (.ishr, 1) := dk_122 (dk_at dksX2_encodeSub_3 17 rfl rfl)
theorem dX2_encodeSub_88 : decode cX2_encodeSub 88 = .ok (.invokestatic 7, 3) := dk_184 0 7 (dk_at dksX2_encodeSub_3 18 rfl rfl)
theorem dX2_encodeSub_91 : decode cX2_encodeSub 91 = .ok (.ixor, 1) := dk_130 (dk_at dksX2_encodeSub_3 21 rfl rfl)
theorem dX2_encodeSub_92 : decode cX2_encodeSub 92 = .ok (.istore_n 2, 1) := dk_61 (dk_at dksX2_encodeSub_3 22 rfl rfl)
theorem dX2_encodeSub_93 : decode cX2_encodeSub 93 = .ok (.aload_n 0, 1) := dk_42 (dk_at dksX2_encodeSub_3 23 rfl rfl)
theorem dX2_encodeSub_94 : decode cX2_encodeSub 94 = .ok (.iconst 3, 1) := dk_6 (dk_at dksX2_encodeSub_4 0 rfl rfl)
theorem dX2_encodeSub_95 : decode cX2_encodeSub 95 = .ok (.iload_n 2, 1) := dk_28 (dk_at dksX2_encodeSub_4 1 rfl rfl)
theorem dX2_encodeSub_96 : decode cX2_encodeSub 96 = .ok (.iastore, 1) := dk_79 (dk_at dksX2_encodeSub_4 2 rfl rfl)
theorem dX2_encodeSub_97 : decode cX2_encodeSub 97 = .ok (.iload_n 2, 1) := dk_28 (dk_at dksX2_encodeSub_4 3 rfl rfl)
theorem dX2_encodeSub_98 : decode cX2_encodeSub 98 = .ok (.iload_n 1, 1) := dk_27 (dk_at dksX2_encodeSub_4 4 rfl rfl)
theorem dX2_encodeSub_99 : decode cX2_encodeSub 99 = .ok (.iconst 5, 1) := dk_8 (dk_at dksX2_encodeSub_4 5 rfl rfl)
theorem dX2_encodeSub_100 : decode cX2_encodeSub 100 = .ok (.ishr, 1) := dk_122 (dk_at dksX2_encodeSub_4 6 rfl rfl)
theorem dX2_encodeSub_101 : decode cX2_encodeSub 101 = .ok (.invokestatic 7, 3) := dk_184 0 7 (dk_at dksX2_encodeSub_4 7 rfl rfl)
theorem dX2_encodeSub_104 : decode cX2_encodeSub 104 = .ok (.ixor, 1) := dk_130 (dk_at dksX2_encodeSub_4 10 rfl rfl)
theorem dX2_encodeSub_105 : decode cX2_encodeSub 105 = .ok (.istore_n 2, 1) := dk_61 (dk_at dksX2_encodeSub_4 11 rfl rfl)
theorem dX2_encodeSub_106 : decode cX2_encodeSub 106 = .ok (.aload_n 0, 1) := dk_42 (dk_at dksX2_encodeSub_4 12 rfl rfl)
theorem dX2_encodeSub_107 : decode cX2_encodeSub 107 = .ok (.iconst 2, 1) := dk_5 (dk_at dksX2_encodeSub_4 13 rfl rfl)
theorem dX2_encodeSub_108 : decode cX2_encodeSub 108 = .ok (.iload_n 2, 1) := dk_28 (dk_at dksX2_encodeSub_4 14 rfl rfl)
theorem dX2_encodeSub_109 : decode cX2_encodeSub 109 = .ok (.iastore, 1) := dk_79 (dk_at dksX2_encodeSub_4 15 rfl rfl)
theorem dX2_encodeSub_110 : decode cX2_encodeSub 110 = .ok (.return_, 1) := dk_177 (dk_at dksX2_encodeSub_4 16 rfl rfl)
abbrev cX2_Bit0Mask : ByteArray := prog_4_method_6_code
def yX2_Bit0Mask : MethodName := ⟨RX2, "Bit0Mask", "(I)I"⟩
def dkwX2_Bit0Mask_0 : List UInt8 := [26, 4, 126, 116, 172]
abbrev dktX2_Bit0Mask_0 : List UInt8 := dkwX2_Bit0Mask_0 ++ []
theorem dksX2_Bit0Mask_0 : cX2_Bit0Mask.data.toList.drop 0 = dktX2_Bit0Mask_0 := by decide +kernel
theorem dX2_Bit0Mask_0 : decode cX2_Bit0Mask 0 = .ok (.iload_n 0, 1) := dk_26 (dk_at dksX2_Bit0Mask_0 0 rfl rfl)
theorem dX2_Bit0Mask_1 : decode cX2_Bit0Mask 1 = .ok (.iconst 1, 1) := dk_4 (dk_at dksX2_Bit0Mask_0 1 rfl rfl)
theorem dX2_Bit0Mask_2 : decode cX2_Bit0Mask 2 = .ok (.iand, 1) := dk_126 (dk_at dksX2_Bit0Mask_0 2 rfl rfl)
theorem dX2_Bit0Mask_3 : decode cX2_Bit0Mask 3 = .ok (.ineg, 1) := dk_116 (dk_at dksX2_Bit0Mask_0 3 rfl rfl)
theorem dX2_Bit0Mask_4 : decode cX2_Bit0Mask 4 = .ok (.ireturn, 1) := dk_172 (dk_at dksX2_Bit0Mask_0 4 rfl rfl)
abbrev cX2_decode : ByteArray := prog_4_method_8_code
def yX2_decode : MethodName := ⟨RX2, "decode", "([B[JII)V"⟩
def dkwX2_decode_3 : List UInt8 := [25, 6, 184, 0, 44, 145, 84, 132, 7, 1, 167, 255, 207, 177]
abbrev dktX2_decode_3 : List UInt8 := dkwX2_decode_3 ++ []
def dkwX2_decode_2 : List UInt8 := [184, 0, 36, 25, 5, 25, 6, 184, 0, 40, 25, 6, 3, 92, 46, 16, 64, 29, 104, 100, 79, 42, 21, 7]
abbrev dktX2_decode_2 : List UInt8 := dkwX2_decode_2 ++ dktX2_decode_3
def dkwX2_decode_1 : List UInt8 := [188, 10, 58, 6, 3, 54, 7, 21, 7, 28, 162, 0, 49, 25, 5, 25, 4, 21, 7, 29, 104, 29]
abbrev dktX2_decode_1 : List UInt8 := dkwX2_decode_1 ++ dktX2_decode_2
def dkwX2_decode_0 : List UInt8 := [43, 190, 5, 104, 188, 10, 58, 4, 25, 4, 43, 184, 0, 30, 17, 0, 128, 188, 10, 58, 5, 17, 0, 128]
abbrev dktX2_decode_0 : List UInt8 := dkwX2_decode_0 ++ dktX2_decode_1
theorem dksX2_decode_0 : cX2_decode.data.toList.drop 0 = dktX2_decode_0 := by decide +kernel
theorem dksX2_decode_1 : cX2_decode.data.toList.drop 24 = dktX2_decode_1 := dk_seg dksX2_decode_0 24 rfl rfl
theorem dksX2_decode_2 : cX2_decode.data.toList.drop 46 = dktX2_decode_2 := dk_seg dksX2_decode_1 22 rfl rfl
theorem dksX2_decode_3 : cX2_decode.data.toList.drop 70 = dktX2_decode_3 := dk_seg dksX2_decode_2 24 rfl rfl
theorem dX2_decode_0 : decode cX2_decode 0 = .ok (.aload_n 1, 1) := dk_43 (dk_at dksX2_decode_0 0 rfl rfl)
theorem dX2_decode_1 : decode cX2_decode 1 = .ok (.arraylength, 1) := dk_190 (dk_at dksX2_decode_0 1 rfl rfl)
theorem dX2_decode_2 : decode cX2_decode 2 = .ok (.iconst 2, 1) := dk_5 (dk_at dksX2_decode_0 2 rfl rfl)
theorem dX2_decode_3 : decode cX2_decode 3 = .ok (.imul, 1) := dk_104 (dk_at dksX2_decode_0 3 rfl rfl)
theorem dX2_decode_4 : decode cX2_decode 4 = .ok (.newarray .int, 2) := dk_188_10 (dk_at dksX2_decode_0 4 rfl rfl)
theorem dX2_decode_6 : decode cX2_decode 6 = .ok (.astore 4, 2) := dk_58 4 (dk_at dksX2_decode_0 6 rfl rfl)
theorem dX2_decode_8 : decode cX2_decode 8 = .ok (.aload 4, 2) := dk_25 4 (dk_at dksX2_decode_0 8 rfl rfl)
theorem dX2_decode_10 : decode cX2_decode 10 = .ok (.aload_n 1, 1) := dk_43 (dk_at dksX2_decode_0 10 rfl rfl)
theorem dX2_decode_11 : decode cX2_decode 11 = .ok (.invokestatic 30, 3) := dk_184 0 30 (dk_at dksX2_decode_0 11 rfl rfl)
theorem dX2_decode_14 : decode cX2_decode 14 = .ok (.sipush 128, 3) := dk_17 0 128 (dk_at dksX2_decode_0 14 rfl rfl)
theorem dX2_decode_17 : decode cX2_decode 17 = .ok (.newarray .int, 2) := dk_188_10 (dk_at dksX2_decode_0 17 rfl rfl)
theorem dX2_decode_19 : decode cX2_decode 19 = .ok (.astore 5, 2) := dk_58 5 (dk_at dksX2_decode_0 19 rfl rfl)
theorem dX2_decode_21 : decode cX2_decode 21 = .ok (.sipush 128, 3) := dk_17 0 128 (dk_at dksX2_decode_0 21 rfl rfl)
theorem dX2_decode_24 : decode cX2_decode 24 = .ok (.newarray .int, 2) := dk_188_10 (dk_at dksX2_decode_1 0 rfl rfl)
theorem dX2_decode_26 : decode cX2_decode 26 = .ok (.astore 6, 2) := dk_58 6 (dk_at dksX2_decode_1 2 rfl rfl)
theorem dX2_decode_28 : decode cX2_decode 28 = .ok (.iconst 0, 1) := dk_3 (dk_at dksX2_decode_1 4 rfl rfl)
theorem dX2_decode_29 : decode cX2_decode 29 = .ok (.istore 7, 2) := dk_54 7 (dk_at dksX2_decode_1 5 rfl rfl)
theorem dX2_decode_31 : decode cX2_decode 31 = .ok (.iload 7, 2) := dk_21 7 (dk_at dksX2_decode_1 7 rfl rfl)
theorem dX2_decode_33 : decode cX2_decode 33 = .ok (.iload_n 2, 1) := dk_28 (dk_at dksX2_decode_1 9 rfl rfl)
theorem dX2_decode_34 : decode cX2_decode 34 = .ok (.if_icmp .ge 49, 3) := dk_162 0 49 (dk_at dksX2_decode_1 10 rfl rfl)
theorem dX2_decode_37 : decode cX2_decode 37 = .ok (.aload 5, 2) := dk_25 5 (dk_at dksX2_decode_1 13 rfl rfl)
theorem dX2_decode_39 : decode cX2_decode 39 = .ok (.aload 4, 2) := dk_25 4 (dk_at dksX2_decode_1 15 rfl rfl)
theorem dX2_decode_41 : decode cX2_decode 41 = .ok (.iload 7, 2) := dk_21 7 (dk_at dksX2_decode_1 17 rfl rfl)
theorem dX2_decode_43 : decode cX2_decode 43 = .ok (.iload_n 3, 1) := dk_29 (dk_at dksX2_decode_1 19 rfl rfl)
theorem dX2_decode_44 : decode cX2_decode 44 = .ok (.imul, 1) := dk_104 (dk_at dksX2_decode_1 20 rfl rfl)
theorem dX2_decode_45 : decode cX2_decode 45 = .ok (.iload_n 3, 1) := dk_29 (dk_at dksX2_decode_1 21 rfl rfl)
theorem dX2_decode_46 : decode cX2_decode 46 = .ok (.invokestatic 36, 3) := dk_184 0 36 (dk_at dksX2_decode_2 0 rfl rfl)
theorem dX2_decode_49 : decode cX2_decode 49 = .ok (.aload 5, 2) := dk_25 5 (dk_at dksX2_decode_2 3 rfl rfl)
theorem dX2_decode_51 : decode cX2_decode 51 = .ok (.aload 6, 2) := dk_25 6 (dk_at dksX2_decode_2 5 rfl rfl)
theorem dX2_decode_53 : decode cX2_decode 53 = .ok (.invokestatic 40, 3) := dk_184 0 40 (dk_at dksX2_decode_2 7 rfl rfl)
theorem dX2_decode_56 : decode cX2_decode 56 = .ok (.aload 6, 2) := dk_25 6 (dk_at dksX2_decode_2 10 rfl rfl)
theorem dX2_decode_58 : decode cX2_decode 58 = .ok (.iconst 0, 1) := dk_3 (dk_at dksX2_decode_2 12 rfl rfl)
theorem dX2_decode_59 : decode cX2_decode 59 = .ok (.dup2, 1) := dk_92 (dk_at dksX2_decode_2 13 rfl rfl)
theorem dX2_decode_60 : decode cX2_decode 60 = .ok (.iaload, 1) := dk_46 (dk_at dksX2_decode_2 14 rfl rfl)
theorem dX2_decode_61 : decode cX2_decode 61 = .ok (.bipush 64, 2) := dk_16 64 (dk_at dksX2_decode_2 15 rfl rfl)
theorem dX2_decode_63 : decode cX2_decode 63 = .ok (.iload_n 3, 1) := dk_29 (dk_at dksX2_decode_2 17 rfl rfl)
theorem dX2_decode_64 : decode cX2_decode 64 = .ok (.imul, 1) := dk_104 (dk_at dksX2_decode_2 18 rfl rfl)
theorem dX2_decode_65 : decode cX2_decode 65 = .ok (.isub, 1) := dk_100 (dk_at dksX2_decode_2 19 rfl rfl)
theorem dX2_decode_66 : decode cX2_decode 66 = .ok (.iastore, 1) := dk_79 (dk_at dksX2_decode_2 20 rfl rfl)
theorem dX2_decode_67 : decode cX2_decode 67 = .ok (.aload_n 0, 1) := dk_42 (dk_at dksX2_decode_2 21 rfl rfl)
theorem dX2_decode_68 : decode cX2_decode 68 = .ok (.iload 7, 2) := dk_21 7 (dk_at dksX2_decode_2 22 rfl rfl)
theorem dX2_decode_70 : decode cX2_decode 70 = .ok (.aload 6, 2) := dk_25 6 (dk_at dksX2_decode_3 0 rfl rfl)
theorem dX2_decode_72 : decode cX2_decode 72 = .ok (.invokestatic 44, 3) := dk_184 0 44 (dk_at dksX2_decode_3 2 rfl rfl)
theorem dX2_decode_75 : decode cX2_decode 75 = .ok (.i2b, 1) := dk_145 (dk_at dksX2_decode_3 5 rfl rfl)
theorem dX2_decode_76 : decode cX2_decode 76 = .ok (.bastore, 1) := dk_84 (dk_at dksX2_decode_3 6 rfl rfl)
theorem dX2_decode_77 : decode cX2_decode 77 = .ok (.iinc 7 1, 3) := dk_132 7 1 (dk_at dksX2_decode_3 7 rfl rfl)
theorem dX2_decode_80 : decode cX2_decode 80 = .ok (.goto (-49), 3) := dk_167 255 207 (dk_at dksX2_decode_3 10 rfl rfl)
theorem dX2_decode_83 : decode cX2_decode 83 = .ok (.return_, 1) := dk_177 (dk_at dksX2_decode_3 13 rfl rfl)
abbrev cX2_expandThenSum : ByteArray := prog_4_method_4_code
def yX2_expandThenSum : MethodName := ⟨RX2, "expandThenSum", "([I[III)V"⟩
def dkwX2_expandThenSum_6 : List UInt8 := [167, 255, 229, 132, 7, 1, 167, 255, 198, 132, 5, 1, 167, 255, 174, 177]
abbrev dktX2_expandThenSum_6 : List UInt8 := dkwX2_expandThenSum_6 ++ []
def dkwX2_expandThenSum_5 : List UInt8 := [162, 0, 26, 42, 21, 9, 21, 10, 96, 92, 46, 21, 8, 21, 10, 122, 4, 126, 96, 79, 132, 10, 1]
abbrev dktX2_expandThenSum_5 : List UInt8 := dkwX2_expandThenSum_5 ++ dktX2_expandThenSum_6
def dkwX2_expandThenSum_4 : List UInt8 := [43, 21, 6, 21, 7, 96, 46, 54, 8, 21, 7, 16, 32, 104, 54, 9, 3, 54, 10, 21, 10, 16, 32]
abbrev dktX2_expandThenSum_4 : List UInt8 := dkwX2_expandThenSum_4 ++ dktX2_expandThenSum_5
def dkwX2_expandThenSum_3 : List UInt8 := [21, 5, 29, 162, 0, 82, 21, 4, 21, 5, 7, 104, 96, 54, 6, 3, 54, 7, 21, 7, 7, 162, 0, 58]
abbrev dktX2_expandThenSum_3 : List UInt8 := dkwX2_expandThenSum_3 ++ dktX2_expandThenSum_4
def dkwX2_expandThenSum_2 : List UInt8 := [21, 6, 21, 8, 122, 4, 126, 79, 132, 8, 1, 167, 255, 232, 132, 5, 1, 167, 255, 201, 4, 54, 5]
abbrev dktX2_expandThenSum_2 : List UInt8 := dkwX2_expandThenSum_2 ++ dktX2_expandThenSum_3
def dkwX2_expandThenSum_1 : List UInt8 := [21, 5, 16, 32, 104, 54, 7, 3, 54, 8, 21, 8, 16, 32, 162, 0, 23, 42, 21, 7, 21, 8, 96]
abbrev dktX2_expandThenSum_1 : List UInt8 := dkwX2_expandThenSum_1 ++ dktX2_expandThenSum_2
def dkwX2_expandThenSum_0 : List UInt8 := [28, 7, 104, 54, 4, 3, 54, 5, 21, 5, 7, 162, 0, 55, 43, 21, 4, 21, 5, 96, 46, 54, 6]
abbrev dktX2_expandThenSum_0 : List UInt8 := dkwX2_expandThenSum_0 ++ dktX2_expandThenSum_1
theorem dksX2_expandThenSum_0 : cX2_expandThenSum.data.toList.drop 0 = dktX2_expandThenSum_0 := by decide +kernel
theorem dksX2_expandThenSum_1 : cX2_expandThenSum.data.toList.drop 23 = dktX2_expandThenSum_1 := dk_seg dksX2_expandThenSum_0 23 rfl rfl
theorem dksX2_expandThenSum_2 : cX2_expandThenSum.data.toList.drop 46 = dktX2_expandThenSum_2 := dk_seg dksX2_expandThenSum_1 23 rfl rfl
theorem dksX2_expandThenSum_3 : cX2_expandThenSum.data.toList.drop 69 = dktX2_expandThenSum_3 := dk_seg dksX2_expandThenSum_2 23 rfl rfl
theorem dksX2_expandThenSum_4 : cX2_expandThenSum.data.toList.drop 93 = dktX2_expandThenSum_4 := dk_seg dksX2_expandThenSum_3 24 rfl rfl
theorem dksX2_expandThenSum_5 : cX2_expandThenSum.data.toList.drop 116 = dktX2_expandThenSum_5 := dk_seg dksX2_expandThenSum_4 23 rfl rfl
theorem dksX2_expandThenSum_6 : cX2_expandThenSum.data.toList.drop 139 = dktX2_expandThenSum_6 := dk_seg dksX2_expandThenSum_5 23 rfl rfl
theorem dX2_expandThenSum_0 : decode cX2_expandThenSum 0 = .ok (.iload_n 2, 1) := dk_28 (dk_at dksX2_expandThenSum_0 0 rfl rfl)
theorem dX2_expandThenSum_1 : decode cX2_expandThenSum 1 = .ok (.iconst 4, 1) := dk_7 (dk_at dksX2_expandThenSum_0 1 rfl rfl)
theorem dX2_expandThenSum_2 : decode cX2_expandThenSum 2 = .ok (.imul, 1) := dk_104 (dk_at dksX2_expandThenSum_0 2 rfl rfl)
theorem dX2_expandThenSum_3 : decode cX2_expandThenSum 3 = .ok (.istore 4, 2) := dk_54 4 (dk_at dksX2_expandThenSum_0 3 rfl rfl)
theorem dX2_expandThenSum_5 : decode cX2_expandThenSum 5 = .ok (.iconst 0, 1) := dk_3 (dk_at dksX2_expandThenSum_0 5 rfl rfl)
theorem dX2_expandThenSum_6 : decode cX2_expandThenSum 6 = .ok (.istore 5, 2) := dk_54 5 (dk_at dksX2_expandThenSum_0 6 rfl rfl)
theorem dX2_expandThenSum_8 : decode cX2_expandThenSum 8 = .ok (.iload 5, 2) := dk_21 5 (dk_at dksX2_expandThenSum_0 8 rfl rfl)
theorem dX2_expandThenSum_10 : decode cX2_expandThenSum 10 = .ok (.iconst 4, 1) := dk_7 (dk_at dksX2_expandThenSum_0 10 rfl rfl)
theorem dX2_expandThenSum_11 : decode cX2_expandThenSum 11 = .ok (.if_icmp .ge 55, 3) := dk_162 0 55 (dk_at dksX2_expandThenSum_0 11 rfl rfl)
theorem dX2_expandThenSum_14 : decode cX2_expandThenSum 14 = .ok (.aload_n 1, 1) := dk_43 (dk_at dksX2_expandThenSum_0 14 rfl rfl)
theorem dX2_expandThenSum_15 : decode cX2_expandThenSum 15 = .ok (.iload 4, 2) := dk_21 4 (dk_at dksX2_expandThenSum_0 15 rfl rfl)
theorem dX2_expandThenSum_17 : decode cX2_expandThenSum 17 = .ok (.iload 5, 2) := dk_21 5 (dk_at dksX2_expandThenSum_0 17 rfl rfl)
theorem dX2_expandThenSum_19 : decode cX2_expandThenSum 19 = .ok (.iadd, 1) := dk_96 (dk_at dksX2_expandThenSum_0 19 rfl rfl)
theorem dX2_expandThenSum_20 : decode cX2_expandThenSum 20 = .ok (.iaload, 1) := dk_46 (dk_at dksX2_expandThenSum_0 20 rfl rfl)
theorem dX2_expandThenSum_21 : decode cX2_expandThenSum 21 = .ok (.istore 6, 2) := dk_54 6 (dk_at dksX2_expandThenSum_0 21 rfl rfl)
theorem dX2_expandThenSum_23 : decode cX2_expandThenSum 23 = .ok (.iload 5, 2) := dk_21 5 (dk_at dksX2_expandThenSum_1 0 rfl rfl)
theorem dX2_expandThenSum_25 : decode cX2_expandThenSum 25 = .ok (.bipush 32, 2) := dk_16 32 (dk_at dksX2_expandThenSum_1 2 rfl rfl)
theorem dX2_expandThenSum_27 : decode cX2_expandThenSum 27 = .ok (.imul, 1) := dk_104 (dk_at dksX2_expandThenSum_1 4 rfl rfl)
theorem dX2_expandThenSum_28 : decode cX2_expandThenSum 28 = .ok (.istore 7, 2) := dk_54 7 (dk_at dksX2_expandThenSum_1 5 rfl rfl)
theorem dX2_expandThenSum_30 : decode cX2_expandThenSum 30 = .ok (.iconst 0, 1) := dk_3 (dk_at dksX2_expandThenSum_1 7 rfl rfl)
theorem dX2_expandThenSum_31 : decode cX2_expandThenSum 31 = .ok (.istore 8, 2) := dk_54 8 (dk_at dksX2_expandThenSum_1 8 rfl rfl)
theorem dX2_expandThenSum_33 : decode cX2_expandThenSum 33 = .ok (.iload 8, 2) := dk_21 8 (dk_at dksX2_expandThenSum_1 10 rfl rfl)
theorem dX2_expandThenSum_35 : decode cX2_expandThenSum 35 = .ok (.bipush 32, 2) := dk_16 32 (dk_at dksX2_expandThenSum_1 12 rfl rfl)
theorem dX2_expandThenSum_37 : decode cX2_expandThenSum 37 = .ok (.if_icmp .ge 23, 3) := dk_162 0 23 (dk_at dksX2_expandThenSum_1 14 rfl rfl)
theorem dX2_expandThenSum_40 : decode cX2_expandThenSum 40 = .ok (.aload_n 0, 1) := dk_42 (dk_at dksX2_expandThenSum_1 17 rfl rfl)
theorem dX2_expandThenSum_41 : decode cX2_expandThenSum 41 = .ok (.iload 7, 2) := dk_21 7 (dk_at dksX2_expandThenSum_1 18 rfl rfl)
theorem dX2_expandThenSum_43 : decode cX2_expandThenSum 43 = .ok (.iload 8, 2) := dk_21 8 (dk_at dksX2_expandThenSum_1 20 rfl rfl)
theorem dX2_expandThenSum_45 : decode cX2_expandThenSum 45 = .ok (.iadd, 1) := dk_96 (dk_at dksX2_expandThenSum_1 22 rfl rfl)
theorem dX2_expandThenSum_46 : decode cX2_expandThenSum 46 = .ok (.iload 6, 2) := dk_21 6 (dk_at dksX2_expandThenSum_2 0 rfl rfl)
theorem dX2_expandThenSum_48 : decode cX2_expandThenSum 48 = .ok (.iload 8, 2) := dk_21 8 (dk_at dksX2_expandThenSum_2 2 rfl rfl)
theorem dX2_expandThenSum_50 : decode cX2_expandThenSum 50 = .ok (.ishr, 1) := dk_122 (dk_at dksX2_expandThenSum_2 4 rfl rfl)
theorem dX2_expandThenSum_51 : decode cX2_expandThenSum 51 = .ok (.iconst 1, 1) := dk_4 (dk_at dksX2_expandThenSum_2 5 rfl rfl)
theorem dX2_expandThenSum_52 : decode cX2_expandThenSum 52 = .ok (.iand, 1) := dk_126 (dk_at dksX2_expandThenSum_2 6 rfl rfl)
theorem dX2_expandThenSum_53 : decode cX2_expandThenSum 53 = .ok (.iastore, 1) := dk_79 (dk_at dksX2_expandThenSum_2 7 rfl rfl)
theorem dX2_expandThenSum_54 : decode cX2_expandThenSum 54 = .ok (.iinc 8 1, 3) := dk_132 8 1 (dk_at dksX2_expandThenSum_2 8 rfl rfl)
theorem dX2_expandThenSum_57 : decode cX2_expandThenSum 57 = .ok (.goto (-24), 3) := dk_167 255 232 (dk_at dksX2_expandThenSum_2 11 rfl rfl)
theorem dX2_expandThenSum_60 : decode cX2_expandThenSum 60 = .ok (.iinc 5 1, 3) := dk_132 5 1 (dk_at dksX2_expandThenSum_2 14 rfl rfl)
theorem dX2_expandThenSum_63 : decode cX2_expandThenSum 63 = .ok (.goto (-55), 3) := dk_167 255 201 (dk_at dksX2_expandThenSum_2 17 rfl rfl)
theorem dX2_expandThenSum_66 : decode cX2_expandThenSum 66 = .ok (.iconst 1, 1) := dk_4 (dk_at dksX2_expandThenSum_2 20 rfl rfl)
theorem dX2_expandThenSum_67 : decode cX2_expandThenSum 67 = .ok (.istore 5, 2) := dk_54 5 (dk_at dksX2_expandThenSum_2 21 rfl rfl)
theorem dX2_expandThenSum_69 : decode cX2_expandThenSum 69 = .ok (.iload 5, 2) := dk_21 5 (dk_at dksX2_expandThenSum_3 0 rfl rfl)
theorem dX2_expandThenSum_71 : decode cX2_expandThenSum 71 = .ok (.iload_n 3, 1) := dk_29 (dk_at dksX2_expandThenSum_3 2 rfl rfl)
theorem dX2_expandThenSum_72 : decode cX2_expandThenSum 72 = .ok (.if_icmp .ge 82, 3) := dk_162 0 82 (dk_at dksX2_expandThenSum_3 3 rfl rfl)
theorem dX2_expandThenSum_75 : decode cX2_expandThenSum 75 = .ok (.iload 4, 2) := dk_21 4 (dk_at dksX2_expandThenSum_3 6 rfl rfl)
theorem dX2_expandThenSum_77 : decode cX2_expandThenSum 77 = .ok (.iload 5, 2) := dk_21 5 (dk_at dksX2_expandThenSum_3 8 rfl rfl)
theorem dX2_expandThenSum_79 : decode cX2_expandThenSum 79 = .ok (.iconst 4, 1) := dk_7 (dk_at dksX2_expandThenSum_3 10 rfl rfl)
theorem dX2_expandThenSum_80 : decode cX2_expandThenSum 80 = .ok (.imul, 1) := dk_104 (dk_at dksX2_expandThenSum_3 11 rfl rfl)
theorem dX2_expandThenSum_81 : decode cX2_expandThenSum 81 = .ok (.iadd, 1) := dk_96 (dk_at dksX2_expandThenSum_3 12 rfl rfl)
theorem dX2_expandThenSum_82 : decode cX2_expandThenSum 82 = .ok (.istore 6, 2) := dk_54 6 (dk_at dksX2_expandThenSum_3 13 rfl rfl)
theorem dX2_expandThenSum_84 : decode cX2_expandThenSum 84 = .ok (.iconst 0, 1) := dk_3 (dk_at dksX2_expandThenSum_3 15 rfl rfl)
theorem dX2_expandThenSum_85 : decode cX2_expandThenSum 85 = .ok (.istore 7, 2) := dk_54 7 (dk_at dksX2_expandThenSum_3 16 rfl rfl)
theorem dX2_expandThenSum_87 : decode cX2_expandThenSum 87 = .ok (.iload 7, 2) := dk_21 7 (dk_at dksX2_expandThenSum_3 18 rfl rfl)
theorem dX2_expandThenSum_89 : decode cX2_expandThenSum 89 = .ok (.iconst 4, 1) := dk_7 (dk_at dksX2_expandThenSum_3 20 rfl rfl)
theorem dX2_expandThenSum_90 : decode cX2_expandThenSum 90 = .ok (.if_icmp .ge 58, 3) := dk_162 0 58 (dk_at dksX2_expandThenSum_3 21 rfl rfl)
theorem dX2_expandThenSum_93 : decode cX2_expandThenSum 93 = .ok (.aload_n 1, 1) := dk_43 (dk_at dksX2_expandThenSum_4 0 rfl rfl)
theorem dX2_expandThenSum_94 : decode cX2_expandThenSum 94 = .ok (.iload 6, 2) := dk_21 6 (dk_at dksX2_expandThenSum_4 1 rfl rfl)
theorem dX2_expandThenSum_96 : decode cX2_expandThenSum 96 = .ok (.iload 7, 2) := dk_21 7 (dk_at dksX2_expandThenSum_4 3 rfl rfl)
theorem dX2_expandThenSum_98 : decode cX2_expandThenSum 98 = .ok (.iadd, 1) := dk_96 (dk_at dksX2_expandThenSum_4 5 rfl rfl)
theorem dX2_expandThenSum_99 : decode cX2_expandThenSum 99 = .ok (.iaload, 1) := dk_46 (dk_at dksX2_expandThenSum_4 6 rfl rfl)
theorem dX2_expandThenSum_100 : decode cX2_expandThenSum 100 = .ok (.istore 8, 2) := dk_54 8 (dk_at dksX2_expandThenSum_4 7 rfl rfl)
theorem dX2_expandThenSum_102 : decode cX2_expandThenSum 102 = .ok (.iload 7, 2) := dk_21 7 (dk_at dksX2_expandThenSum_4 9 rfl rfl)
theorem dX2_expandThenSum_104 : decode cX2_expandThenSum 104 = .ok (.bipush 32, 2) := dk_16 32 (dk_at dksX2_expandThenSum_4 11 rfl rfl)
theorem dX2_expandThenSum_106 : decode cX2_expandThenSum 106 = .ok (.imul, 1) := dk_104 (dk_at dksX2_expandThenSum_4 13 rfl rfl)
theorem dX2_expandThenSum_107 : decode cX2_expandThenSum 107 = .ok (.istore 9, 2) := dk_54 9 (dk_at dksX2_expandThenSum_4 14 rfl rfl)
theorem dX2_expandThenSum_109 : decode cX2_expandThenSum 109 = .ok (.iconst 0, 1) := dk_3 (dk_at dksX2_expandThenSum_4 16 rfl rfl)
theorem dX2_expandThenSum_110 : decode cX2_expandThenSum 110 = .ok (.istore 10, 2) := dk_54 10 (dk_at dksX2_expandThenSum_4 17 rfl rfl)
theorem dX2_expandThenSum_112 : decode cX2_expandThenSum 112 = .ok (.iload 10, 2) := dk_21 10 (dk_at dksX2_expandThenSum_4 19 rfl rfl)
theorem dX2_expandThenSum_114 : decode cX2_expandThenSum 114 = .ok (.bipush 32, 2) := dk_16 32 (dk_at dksX2_expandThenSum_4 21 rfl rfl)
theorem dX2_expandThenSum_116 : decode cX2_expandThenSum 116 = .ok (.if_icmp .ge 26, 3) := dk_162 0 26 (dk_at dksX2_expandThenSum_5 0 rfl rfl)
theorem dX2_expandThenSum_119 : decode cX2_expandThenSum 119 = .ok (.aload_n 0, 1) := dk_42 (dk_at dksX2_expandThenSum_5 3 rfl rfl)
theorem dX2_expandThenSum_120 : decode cX2_expandThenSum 120 = .ok (.iload 9, 2) := dk_21 9 (dk_at dksX2_expandThenSum_5 4 rfl rfl)
theorem dX2_expandThenSum_122 : decode cX2_expandThenSum 122 = .ok (.iload 10, 2) := dk_21 10 (dk_at dksX2_expandThenSum_5 6 rfl rfl)
theorem dX2_expandThenSum_124 : decode cX2_expandThenSum 124 = .ok (.iadd, 1) := dk_96 (dk_at dksX2_expandThenSum_5 8 rfl rfl)
theorem dX2_expandThenSum_125 : decode cX2_expandThenSum 125 = .ok (.dup2, 1) := dk_92 (dk_at dksX2_expandThenSum_5 9 rfl rfl)
theorem dX2_expandThenSum_126 : decode cX2_expandThenSum 126 = .ok (.iaload, 1) := dk_46 (dk_at dksX2_expandThenSum_5 10 rfl rfl)
theorem dX2_expandThenSum_127 : decode cX2_expandThenSum 127 = .ok (.iload 8, 2) := dk_21 8 (dk_at dksX2_expandThenSum_5 11 rfl rfl)
theorem dX2_expandThenSum_129 : decode cX2_expandThenSum 129 = .ok (.iload 10, 2) := dk_21 10 (dk_at dksX2_expandThenSum_5 13 rfl rfl)
theorem dX2_expandThenSum_131 : decode cX2_expandThenSum 131 = .ok (.ishr, 1) := dk_122 (dk_at dksX2_expandThenSum_5 15 rfl rfl)
theorem dX2_expandThenSum_132 : decode cX2_expandThenSum 132 = .ok (.iconst 1, 1) := dk_4 (dk_at dksX2_expandThenSum_5 16 rfl rfl)
theorem dX2_expandThenSum_133 : decode cX2_expandThenSum 133 = .ok (.iand, 1) := dk_126 (dk_at dksX2_expandThenSum_5 17 rfl rfl)
theorem dX2_expandThenSum_134 : decode cX2_expandThenSum 134 = .ok (.iadd, 1) := dk_96 (dk_at dksX2_expandThenSum_5 18 rfl rfl)
theorem dX2_expandThenSum_135 : decode cX2_expandThenSum 135 = .ok (.iastore, 1) := dk_79 (dk_at dksX2_expandThenSum_5 19 rfl rfl)
theorem dX2_expandThenSum_136 : decode cX2_expandThenSum 136 = .ok (.iinc 10 1, 3) := dk_132 10 1 (dk_at dksX2_expandThenSum_5 20 rfl rfl)
theorem dX2_expandThenSum_139 : decode cX2_expandThenSum 139 = .ok (.goto (-27), 3) := dk_167 255 229 (dk_at dksX2_expandThenSum_6 0 rfl rfl)
theorem dX2_expandThenSum_142 : decode cX2_expandThenSum 142 = .ok (.iinc 7 1, 3) := dk_132 7 1 (dk_at dksX2_expandThenSum_6 3 rfl rfl)
theorem dX2_expandThenSum_145 : decode cX2_expandThenSum 145 = .ok (.goto (-58), 3) := dk_167 255 198 (dk_at dksX2_expandThenSum_6 6 rfl rfl)
theorem dX2_expandThenSum_148 : decode cX2_expandThenSum 148 = .ok (.iinc 5 1, 3) := dk_132 5 1 (dk_at dksX2_expandThenSum_6 9 rfl rfl)
theorem dX2_expandThenSum_151 : decode cX2_expandThenSum 151 = .ok (.goto (-82), 3) := dk_167 255 174 (dk_at dksX2_expandThenSum_6 12 rfl rfl)
theorem dX2_expandThenSum_154 : decode cX2_expandThenSum 154 = .ok (.return_, 1) := dk_177 (dk_at dksX2_expandThenSum_6 15 rfl rfl)
abbrev cX2_hadamardTransform : ByteArray := prog_4_method_3_code
def yX2_hadamardTransform : MethodName := ⟨RX2, "hadamardTransform", "([I[I)V"⟩
def dkwX2_hadamardTransform_2 : List UInt8 := [21, 5, 100, 79, 132, 3, 1, 167, 255, 212, 42, 78, 43, 75, 45, 76, 132, 2, 1, 167, 255, 192, 177]
abbrev dktX2_hadamardTransform_2 : List UInt8 := dkwX2_hadamardTransform_2 ++ []
def dkwX2_hadamardTransform_1 : List UInt8 := [5, 29, 104, 4, 96, 46, 54, 5, 43, 29, 21, 4, 21, 5, 96, 79, 43, 29, 16, 64, 96, 21, 4]
abbrev dktX2_hadamardTransform_1 : List UInt8 := dkwX2_hadamardTransform_1 ++ dktX2_hadamardTransform_2
def dkwX2_hadamardTransform_0 : List UInt8 := [3, 61, 28, 16, 7, 162, 0, 64, 3, 62, 29, 16, 64, 162, 0, 44, 42, 5, 29, 104, 46, 54, 4, 42]
abbrev dktX2_hadamardTransform_0 : List UInt8 := dkwX2_hadamardTransform_0 ++ dktX2_hadamardTransform_1
theorem dksX2_hadamardTransform_0 : cX2_hadamardTransform.data.toList.drop 0 = dktX2_hadamardTransform_0 := by decide +kernel
theorem dksX2_hadamardTransform_1 : cX2_hadamardTransform.data.toList.drop 24 = dktX2_hadamardTransform_1 := dk_seg dksX2_hadamardTransform_0 24 rfl rfl
theorem dksX2_hadamardTransform_2 : cX2_hadamardTransform.data.toList.drop 47 = dktX2_hadamardTransform_2 := dk_seg dksX2_hadamardTransform_1 23 rfl rfl
theorem dX2_hadamardTransform_0 : decode cX2_hadamardTransform 0 = .ok (.iconst 0, 1) := dk_3 (dk_at dksX2_hadamardTransform_0 0 rfl rfl)
theorem dX2_hadamardTransform_1 : decode cX2_hadamardTransform 1 = .ok (.istore_n 2, 1) := dk_61 (dk_at dksX2_hadamardTransform_0 1 rfl rfl)
theorem dX2_hadamardTransform_2 : decode cX2_hadamardTransform 2 = .ok (.iload_n 2, 1) := dk_28 (dk_at dksX2_hadamardTransform_0 2 rfl rfl)
theorem dX2_hadamardTransform_3 : decode cX2_hadamardTransform 3 = .ok (.bipush 7, 2) := dk_16 7 (dk_at dksX2_hadamardTransform_0 3 rfl rfl)
theorem dX2_hadamardTransform_5 : decode cX2_hadamardTransform 5 = .ok (.if_icmp .ge 64, 3) := dk_162 0 64 (dk_at dksX2_hadamardTransform_0 5 rfl rfl)
theorem dX2_hadamardTransform_8 : decode cX2_hadamardTransform 8 = .ok (.iconst 0, 1) := dk_3 (dk_at dksX2_hadamardTransform_0 8 rfl rfl)
theorem dX2_hadamardTransform_9 : decode cX2_hadamardTransform 9 = .ok (.istore_n 3, 1) := dk_62 (dk_at dksX2_hadamardTransform_0 9 rfl rfl)
theorem dX2_hadamardTransform_10 : decode cX2_hadamardTransform 10 = .ok (.iload_n 3, 1) := dk_29 (dk_at dksX2_hadamardTransform_0 10 rfl rfl)
theorem dX2_hadamardTransform_11 : decode cX2_hadamardTransform 11 = .ok (.bipush 64, 2) := dk_16 64 (dk_at dksX2_hadamardTransform_0 11 rfl rfl)
theorem dX2_hadamardTransform_13 : decode cX2_hadamardTransform 13 = .ok (.if_icmp .ge 44, 3) := dk_162 0 44 (dk_at dksX2_hadamardTransform_0 13 rfl rfl)
theorem dX2_hadamardTransform_16 : decode cX2_hadamardTransform 16 = .ok (.aload_n 0, 1) := dk_42 (dk_at dksX2_hadamardTransform_0 16 rfl rfl)
theorem dX2_hadamardTransform_17 : decode cX2_hadamardTransform 17 = .ok (.iconst 2, 1) := dk_5 (dk_at dksX2_hadamardTransform_0 17 rfl rfl)
theorem dX2_hadamardTransform_18 : decode cX2_hadamardTransform 18 = .ok (.iload_n 3, 1) := dk_29 (dk_at dksX2_hadamardTransform_0 18 rfl rfl)
theorem dX2_hadamardTransform_19 : decode cX2_hadamardTransform 19 = .ok (.imul, 1) := dk_104 (dk_at dksX2_hadamardTransform_0 19 rfl rfl)
theorem dX2_hadamardTransform_20 : decode cX2_hadamardTransform 20 = .ok (.iaload, 1) := dk_46 (dk_at dksX2_hadamardTransform_0 20 rfl rfl)
theorem dX2_hadamardTransform_21 : decode cX2_hadamardTransform 21 = .ok (.istore 4, 2) := dk_54 4 (dk_at dksX2_hadamardTransform_0 21 rfl rfl)
theorem dX2_hadamardTransform_23 : decode cX2_hadamardTransform 23 = .ok (.aload_n 0, 1) := dk_42 (dk_at dksX2_hadamardTransform_0 23 rfl rfl)
theorem dX2_hadamardTransform_24 : decode cX2_hadamardTransform 24 = .ok (.iconst 2, 1) := dk_5 (dk_at dksX2_hadamardTransform_1 0 rfl rfl)
theorem dX2_hadamardTransform_25 : decode cX2_hadamardTransform 25 = .ok (.iload_n 3, 1) := dk_29 (dk_at dksX2_hadamardTransform_1 1 rfl rfl)
theorem dX2_hadamardTransform_26 : decode cX2_hadamardTransform 26 = .ok (.imul, 1) := dk_104 (dk_at dksX2_hadamardTransform_1 2 rfl rfl)
theorem dX2_hadamardTransform_27 : decode cX2_hadamardTransform 27 = .ok (.iconst 1, 1) := dk_4 (dk_at dksX2_hadamardTransform_1 3 rfl rfl)
theorem dX2_hadamardTransform_28 : decode cX2_hadamardTransform 28 = .ok (.iadd, 1) := dk_96 (dk_at dksX2_hadamardTransform_1 4 rfl rfl)
theorem dX2_hadamardTransform_29 : decode cX2_hadamardTransform 29 = .ok (.iaload, 1) := dk_46 (dk_at dksX2_hadamardTransform_1 5 rfl rfl)
theorem dX2_hadamardTransform_30 : decode cX2_hadamardTransform 30 = .ok (.istore 5, 2) := dk_54 5 (dk_at dksX2_hadamardTransform_1 6 rfl rfl)
theorem dX2_hadamardTransform_32 : decode cX2_hadamardTransform 32 = .ok (.aload_n 1, 1) := dk_43 (dk_at dksX2_hadamardTransform_1 8 rfl rfl)
theorem dX2_hadamardTransform_33 : decode cX2_hadamardTransform 33 = .ok (.iload_n 3, 1) := dk_29 (dk_at dksX2_hadamardTransform_1 9 rfl rfl)
theorem dX2_hadamardTransform_34 : decode cX2_hadamardTransform 34 = .ok (.iload 4, 2) := dk_21 4 (dk_at dksX2_hadamardTransform_1 10 rfl rfl)
theorem dX2_hadamardTransform_36 : decode cX2_hadamardTransform 36 = .ok (.iload 5, 2) := dk_21 5 (dk_at dksX2_hadamardTransform_1 12 rfl rfl)
theorem dX2_hadamardTransform_38 : decode cX2_hadamardTransform 38 = .ok (.iadd, 1) := dk_96 (dk_at dksX2_hadamardTransform_1 14 rfl rfl)
theorem dX2_hadamardTransform_39 : decode cX2_hadamardTransform 39 = .ok (.iastore, 1) := dk_79 (dk_at dksX2_hadamardTransform_1 15 rfl rfl)
theorem dX2_hadamardTransform_40 : decode cX2_hadamardTransform 40 = .ok (.aload_n 1, 1) := dk_43 (dk_at dksX2_hadamardTransform_1 16 rfl rfl)
theorem dX2_hadamardTransform_41 : decode cX2_hadamardTransform 41 = .ok (.iload_n 3, 1) := dk_29 (dk_at dksX2_hadamardTransform_1 17 rfl rfl)
theorem dX2_hadamardTransform_42 : decode cX2_hadamardTransform 42 = .ok (.bipush 64, 2) := dk_16 64 (dk_at dksX2_hadamardTransform_1 18 rfl rfl)
theorem dX2_hadamardTransform_44 : decode cX2_hadamardTransform 44 = .ok (.iadd, 1) := dk_96 (dk_at dksX2_hadamardTransform_1 20 rfl rfl)
theorem dX2_hadamardTransform_45 : decode cX2_hadamardTransform 45 = .ok (.iload 4, 2) := dk_21 4 (dk_at dksX2_hadamardTransform_1 21 rfl rfl)
theorem dX2_hadamardTransform_47 : decode cX2_hadamardTransform 47 = .ok (.iload 5, 2) := dk_21 5 (dk_at dksX2_hadamardTransform_2 0 rfl rfl)
theorem dX2_hadamardTransform_49 : decode cX2_hadamardTransform 49 = .ok (.isub, 1) := dk_100 (dk_at dksX2_hadamardTransform_2 2 rfl rfl)
theorem dX2_hadamardTransform_50 : decode cX2_hadamardTransform 50 = .ok (.iastore, 1) := dk_79 (dk_at dksX2_hadamardTransform_2 3 rfl rfl)
theorem dX2_hadamardTransform_51 : decode cX2_hadamardTransform 51 = .ok (.iinc 3 1, 3) := dk_132 3 1 (dk_at dksX2_hadamardTransform_2 4 rfl rfl)
theorem dX2_hadamardTransform_54 : decode cX2_hadamardTransform 54 = .ok (.goto (-44), 3) := dk_167 255 212 (dk_at dksX2_hadamardTransform_2 7 rfl rfl)
theorem dX2_hadamardTransform_57 : decode cX2_hadamardTransform 57 = .ok (.aload_n 0, 1) := dk_42 (dk_at dksX2_hadamardTransform_2 10 rfl rfl)
theorem dX2_hadamardTransform_58 : decode cX2_hadamardTransform 58 = .ok (.astore_n 3, 1) := dk_78 (dk_at dksX2_hadamardTransform_2 11 rfl rfl)
theorem dX2_hadamardTransform_59 : decode cX2_hadamardTransform 59 = .ok (.aload_n 1, 1) := dk_43 (dk_at dksX2_hadamardTransform_2 12 rfl rfl)
theorem dX2_hadamardTransform_60 : decode cX2_hadamardTransform 60 = .ok (.astore_n 0, 1) := dk_75 (dk_at dksX2_hadamardTransform_2 13 rfl rfl)
theorem dX2_hadamardTransform_61 : decode cX2_hadamardTransform 61 = .ok (.aload_n 3, 1) := dk_45 (dk_at dksX2_hadamardTransform_2 14 rfl rfl)
theorem dX2_hadamardTransform_62 : decode cX2_hadamardTransform 62 = .ok (.astore_n 1, 1) := dk_76 (dk_at dksX2_hadamardTransform_2 15 rfl rfl)
theorem dX2_hadamardTransform_63 : decode cX2_hadamardTransform 63 = .ok (.iinc 2 1, 3) := dk_132 2 1 (dk_at dksX2_hadamardTransform_2 16 rfl rfl)
theorem dX2_hadamardTransform_66 : decode cX2_hadamardTransform 66 = .ok (.goto (-64), 3) := dk_167 255 192 (dk_at dksX2_hadamardTransform_2 19 rfl rfl)
theorem dX2_hadamardTransform_69 : decode cX2_hadamardTransform 69 = .ok (.return_, 1) := dk_177 (dk_at dksX2_hadamardTransform_2 22 rfl rfl)
abbrev cX2_findPeaks : ByteArray := prog_4_method_5_code
def yX2_findPeaks : MethodName := ⟨RX2, "findPeaks", "([I)I"⟩
def dkwX2_findPeaks_4 : List UInt8 := [4, 167, 0, 4, 3, 54, 4, 29, 17, 0, 128, 21, 4, 104, 128, 62, 29, 172]
abbrev dktX2_findPeaks_4 : List UInt8 := dkwX2_findPeaks_4 ++ []
def dkwX2_findPeaks_3 : List UInt8 := [21, 4, 167, 0, 4, 29, 62, 21, 7, 27, 184, 0, 18, 60, 132, 4, 1, 167, 255, 178, 28, 158, 0, 7]
abbrev dktX2_findPeaks_3 : List UInt8 := dkwX2_findPeaks_3 ++ dktX2_findPeaks_4
def dkwX2_findPeaks_2 : List UInt8 := [126, 128, 54, 7, 21, 7, 27, 164, 0, 8, 21, 5, 167, 0, 4, 28, 61, 21, 7, 27, 164, 0, 8]
abbrev dktX2_findPeaks_2 : List UInt8 := dkwX2_findPeaks_2 ++ dktX2_findPeaks_3
def dkwX2_findPeaks_1 : List UInt8 := [21, 5, 158, 0, 7, 2, 167, 0, 4, 3, 54, 6, 21, 6, 21, 5, 126, 21, 6, 2, 130, 21, 5, 116]
abbrev dktX2_findPeaks_1 : List UInt8 := dkwX2_findPeaks_1 ++ dktX2_findPeaks_2
def dkwX2_findPeaks_0 : List UInt8 := [3, 60, 3, 61, 3, 62, 3, 54, 4, 21, 4, 17, 0, 128, 162, 0, 76, 42, 21, 4, 46, 54, 5]
abbrev dktX2_findPeaks_0 : List UInt8 := dkwX2_findPeaks_0 ++ dktX2_findPeaks_1
theorem dksX2_findPeaks_0 : cX2_findPeaks.data.toList.drop 0 = dktX2_findPeaks_0 := by decide +kernel
theorem dksX2_findPeaks_1 : cX2_findPeaks.data.toList.drop 23 = dktX2_findPeaks_1 := dk_seg dksX2_findPeaks_0 23 rfl rfl
theorem dksX2_findPeaks_2 : cX2_findPeaks.data.toList.drop 47 = dktX2_findPeaks_2 := dk_seg dksX2_findPeaks_1 24 rfl rfl
theorem dksX2_findPeaks_3 : cX2_findPeaks.data.toList.drop 70 = dktX2_findPeaks_3 := dk_seg dksX2_findPeaks_2 23 rfl rfl
theorem dksX2_findPeaks_4 : cX2_findPeaks.data.toList.drop 94 = dktX2_findPeaks_4 := dk_seg dksX2_findPeaks_3 24 rfl rfl
theorem dX2_findPeaks_0 : decode cX2_findPeaks 0 = .ok (.iconst 0, 1) := dk_3 (dk_at dksX2_findPeaks_0 0 rfl rfl)
theorem dX2_findPeaks_1 : decode cX2_findPeaks 1 = .ok (.istore_n 1, 1) := dk_60 (dk_at dksX2_findPeaks_0 1 rfl rfl)
theorem dX2_findPeaks_2 : decode cX2_findPeaks 2 = .ok (.iconst 0, 1) := dk_3 (dk_at dksX2_findPeaks_0 2 rfl rfl)
theorem dX2_findPeaks_3 : decode cX2_findPeaks 3 = .ok (.istore_n 2, 1) := dk_61 (dk_at dksX2_findPeaks_0 3 rfl rfl)
theorem dX2_findPeaks_4 : decode cX2_findPeaks 4 = .ok (.iconst 0, 1) := dk_3 (dk_at dksX2_findPeaks_0 4 rfl rfl)
theorem dX2_findPeaks_5 : decode cX2_findPeaks 5 = .ok (.istore_n 3, 1) := dk_62 (dk_at dksX2_findPeaks_0 5 rfl rfl)
theorem dX2_findPeaks_6 : decode cX2_findPeaks 6 = .ok (.iconst 0, 1) := dk_3 (dk_at dksX2_findPeaks_0 6 rfl rfl)
theorem dX2_findPeaks_7 : decode cX2_findPeaks 7 = .ok (.istore 4, 2) := dk_54 4 (dk_at dksX2_findPeaks_0 7 rfl rfl)
theorem dX2_findPeaks_9 : decode cX2_findPeaks 9 = .ok (.iload 4, 2) := dk_21 4 (dk_at dksX2_findPeaks_0 9 rfl rfl)
theorem dX2_findPeaks_11 : decode cX2_findPeaks 11 = .ok (.sipush 128, 3) := dk_17 0 128 (dk_at dksX2_findPeaks_0 11 rfl rfl)
theorem dX2_findPeaks_14 : decode cX2_findPeaks 14 = .ok (.if_icmp .ge 76, 3) := dk_162 0 76 (dk_at dksX2_findPeaks_0 14 rfl rfl)
theorem dX2_findPeaks_17 : decode cX2_findPeaks 17 = .ok (.aload_n 0, 1) := dk_42 (dk_at dksX2_findPeaks_0 17 rfl rfl)
theorem dX2_findPeaks_18 : decode cX2_findPeaks 18 = .ok (.iload 4, 2) := dk_21 4 (dk_at dksX2_findPeaks_0 18 rfl rfl)
theorem dX2_findPeaks_20 : decode cX2_findPeaks 20 = .ok (.iaload, 1) := dk_46 (dk_at dksX2_findPeaks_0 20 rfl rfl)
theorem dX2_findPeaks_21 : decode cX2_findPeaks 21 = .ok (.istore 5, 2) := dk_54 5 (dk_at dksX2_findPeaks_0 21 rfl rfl)
theorem dX2_findPeaks_23 : decode cX2_findPeaks 23 = .ok (.iload 5, 2) := dk_21 5 (dk_at dksX2_findPeaks_1 0 rfl rfl)
theorem dX2_findPeaks_25 : decode cX2_findPeaks 25 = .ok (.ifCond .le 7, 3) := dk_158 0 7 (dk_at dksX2_findPeaks_1 2 rfl rfl)
theorem dX2_findPeaks_28 : decode cX2_findPeaks 28 = .ok (.iconst (-1), 1) := dk_2 (dk_at dksX2_findPeaks_1 5 rfl rfl)
theorem dX2_findPeaks_29 : decode cX2_findPeaks 29 = .ok (.goto 4, 3) := dk_167 0 4 (dk_at dksX2_findPeaks_1 6 rfl rfl)
theorem dX2_findPeaks_32 : decode cX2_findPeaks 32 = .ok (.iconst 0, 1) := dk_3 (dk_at dksX2_findPeaks_1 9 rfl rfl)
theorem dX2_findPeaks_33 : decode cX2_findPeaks 33 = .ok (.istore 6, 2) := dk_54 6 (dk_at dksX2_findPeaks_1 10 rfl rfl)
theorem dX2_findPeaks_35 : decode cX2_findPeaks 35 = .ok (.iload 6, 2) := dk_21 6 (dk_at dksX2_findPeaks_1 12 rfl rfl)
theorem dX2_findPeaks_37 : decode cX2_findPeaks 37 = .ok (.iload 5, 2) := dk_21 5 (dk_at dksX2_findPeaks_1 14 rfl rfl)
theorem dX2_findPeaks_39 : decode cX2_findPeaks 39 = .ok (.iand, 1) := dk_126 (dk_at dksX2_findPeaks_1 16 rfl rfl)
theorem dX2_findPeaks_40 : decode cX2_findPeaks 40 = .ok (.iload 6, 2) := dk_21 6 (dk_at dksX2_findPeaks_1 17 rfl rfl)
theorem dX2_findPeaks_42 : decode cX2_findPeaks 42 = .ok (.iconst (-1), 1) := dk_2 (dk_at dksX2_findPeaks_1 19 rfl rfl)
theorem dX2_findPeaks_43 : decode cX2_findPeaks 43 = .ok (.ixor, 1) := dk_130 (dk_at dksX2_findPeaks_1 20 rfl rfl)
theorem dX2_findPeaks_44 : decode cX2_findPeaks 44 = .ok (.iload 5, 2) := dk_21 5 (dk_at dksX2_findPeaks_1 21 rfl rfl)
theorem dX2_findPeaks_46 : decode cX2_findPeaks 46 = .ok (.ineg, 1) := dk_116 (dk_at dksX2_findPeaks_1 23 rfl rfl)
theorem dX2_findPeaks_47 : decode cX2_findPeaks 47 = .ok (.iand, 1) := dk_126 (dk_at dksX2_findPeaks_2 0 rfl rfl)
theorem dX2_findPeaks_48 : decode cX2_findPeaks 48 = .ok (.ior, 1) := dk_128 (dk_at dksX2_findPeaks_2 1 rfl rfl)
theorem dX2_findPeaks_49 : decode cX2_findPeaks 49 = .ok (.istore 7, 2) := dk_54 7 (dk_at dksX2_findPeaks_2 2 rfl rfl)
theorem dX2_findPeaks_51 : decode cX2_findPeaks 51 = .ok (.iload 7, 2) := dk_21 7 (dk_at dksX2_findPeaks_2 4 rfl rfl)
theorem dX2_findPeaks_53 : decode cX2_findPeaks 53 = .ok (.iload_n 1, 1) := dk_27 (dk_at dksX2_findPeaks_2 6 rfl rfl)
theorem dX2_findPeaks_54 : decode cX2_findPeaks 54 = .ok (.if_icmp .le 8, 3) := dk_164 0 8 (dk_at dksX2_findPeaks_2 7 rfl rfl)
theorem dX2_findPeaks_57 : decode cX2_findPeaks 57 = .ok (.iload 5, 2) := dk_21 5 (dk_at dksX2_findPeaks_2 10 rfl rfl)
theorem dX2_findPeaks_59 : decode cX2_findPeaks 59 = .ok (.goto 4, 3) := dk_167 0 4 (dk_at dksX2_findPeaks_2 12 rfl rfl)
theorem dX2_findPeaks_62 : decode cX2_findPeaks 62 = .ok (.iload_n 2, 1) := dk_28 (dk_at dksX2_findPeaks_2 15 rfl rfl)
theorem dX2_findPeaks_63 : decode cX2_findPeaks 63 = .ok (.istore_n 2, 1) := dk_61 (dk_at dksX2_findPeaks_2 16 rfl rfl)
theorem dX2_findPeaks_64 : decode cX2_findPeaks 64 = .ok (.iload 7, 2) := dk_21 7 (dk_at dksX2_findPeaks_2 17 rfl rfl)
theorem dX2_findPeaks_66 : decode cX2_findPeaks 66 = .ok (.iload_n 1, 1) := dk_27 (dk_at dksX2_findPeaks_2 19 rfl rfl)
theorem dX2_findPeaks_67 : decode cX2_findPeaks 67 = .ok (.if_icmp .le 8, 3) := dk_164 0 8 (dk_at dksX2_findPeaks_2 20 rfl rfl)
theorem dX2_findPeaks_70 : decode cX2_findPeaks 70 = .ok (.iload 4, 2) := dk_21 4 (dk_at dksX2_findPeaks_3 0 rfl rfl)
theorem dX2_findPeaks_72 : decode cX2_findPeaks 72 = .ok (.goto 4, 3) := dk_167 0 4 (dk_at dksX2_findPeaks_3 2 rfl rfl)
theorem dX2_findPeaks_75 : decode cX2_findPeaks 75 = .ok (.iload_n 3, 1) := dk_29 (dk_at dksX2_findPeaks_3 5 rfl rfl)
theorem dX2_findPeaks_76 : decode cX2_findPeaks 76 = .ok (.istore_n 3, 1) := dk_62 (dk_at dksX2_findPeaks_3 6 rfl rfl)
theorem dX2_findPeaks_77 : decode cX2_findPeaks 77 = .ok (.iload 7, 2) := dk_21 7 (dk_at dksX2_findPeaks_3 7 rfl rfl)
theorem dX2_findPeaks_79 : decode cX2_findPeaks 79 = .ok (.iload_n 1, 1) := dk_27 (dk_at dksX2_findPeaks_3 9 rfl rfl)
theorem dX2_findPeaks_80 : decode cX2_findPeaks 80 = .ok (.invokestatic 18, 3) := dk_184 0 18 (dk_at dksX2_findPeaks_3 10 rfl rfl)
theorem dX2_findPeaks_83 : decode cX2_findPeaks 83 = .ok (.istore_n 1, 1) := dk_60 (dk_at dksX2_findPeaks_3 13 rfl rfl)
theorem dX2_findPeaks_84 : decode cX2_findPeaks 84 = .ok (.iinc 4 1, 3) := dk_132 4 1 (dk_at dksX2_findPeaks_3 14 rfl rfl)
theorem dX2_findPeaks_87 : decode cX2_findPeaks 87 = .ok (.goto (-78), 3) := dk_167 255 178 (dk_at dksX2_findPeaks_3 17 rfl rfl)
theorem dX2_findPeaks_90 : decode cX2_findPeaks 90 = .ok (.iload_n 2, 1) := dk_28 (dk_at dksX2_findPeaks_3 20 rfl rfl)
theorem dX2_findPeaks_91 : decode cX2_findPeaks 91 = .ok (.ifCond .le 7, 3) := dk_158 0 7 (dk_at dksX2_findPeaks_3 21 rfl rfl)
theorem dX2_findPeaks_94 : decode cX2_findPeaks 94 = .ok (.iconst 1, 1) := dk_4 (dk_at dksX2_findPeaks_4 0 rfl rfl)
theorem dX2_findPeaks_95 : decode cX2_findPeaks 95 = .ok (.goto 4, 3) := dk_167 0 4 (dk_at dksX2_findPeaks_4 1 rfl rfl)
theorem dX2_findPeaks_98 : decode cX2_findPeaks 98 = .ok (.iconst 0, 1) := dk_3 (dk_at dksX2_findPeaks_4 4 rfl rfl)
theorem dX2_findPeaks_99 : decode cX2_findPeaks 99 = .ok (.istore 4, 2) := dk_54 4 (dk_at dksX2_findPeaks_4 5 rfl rfl)
theorem dX2_findPeaks_101 : decode cX2_findPeaks 101 = .ok (.iload_n 3, 1) := dk_29 (dk_at dksX2_findPeaks_4 7 rfl rfl)
theorem dX2_findPeaks_102 : decode cX2_findPeaks 102 = .ok (.sipush 128, 3) := dk_17 0 128 (dk_at dksX2_findPeaks_4 8 rfl rfl)
theorem dX2_findPeaks_105 : decode cX2_findPeaks 105 = .ok (.iload 4, 2) := dk_21 4 (dk_at dksX2_findPeaks_4 11 rfl rfl)
theorem dX2_findPeaks_107 : decode cX2_findPeaks 107 = .ok (.imul, 1) := dk_104 (dk_at dksX2_findPeaks_4 13 rfl rfl)
theorem dX2_findPeaks_108 : decode cX2_findPeaks 108 = .ok (.ior, 1) := dk_128 (dk_at dksX2_findPeaks_4 14 rfl rfl)
theorem dX2_findPeaks_109 : decode cX2_findPeaks 109 = .ok (.istore_n 3, 1) := dk_62 (dk_at dksX2_findPeaks_4 15 rfl rfl)
theorem dX2_findPeaks_110 : decode cX2_findPeaks 110 = .ok (.iload_n 3, 1) := dk_29 (dk_at dksX2_findPeaks_4 16 rfl rfl)
theorem dX2_findPeaks_111 : decode cX2_findPeaks 111 = .ok (.ireturn, 1) := dk_172 (dk_at dksX2_findPeaks_4 17 rfl rfl)
theorem q4 : (Jvm.Cond.initialized "ReedMuller") ∈ lw_all := lw_g (lw_at lw_m0 3 rfl) rfl
theorem q39 : (Jvm.Cond.static ({ cls := "ReedMuller", name := "encode", desc := "([J[BII)V" } : Jvm.MethodName)) ∈ lw_all := lw_g (lw_at lw_m0 38 rfl) rfl
theorem q40 : (Jvm.Cond.code ({ cls := "ReedMuller", name := "encode", desc := "([J[BII)V" } : Jvm.MethodName) prog_4_method_7_code (12 : Nat) (Option.none : Option Jvm.ClassFile.FieldType)) ∈ lw_all := lw_g (lw_at lw_m0 39 rfl) rfl
theorem q41 : (Jvm.Cond.methodLink "ReedMuller" (24 : Nat) ({ cls := "ReedMuller", name := "encodeSub", desc := "([II)V" } : Jvm.MethodName)) ∈ lw_all := lw_g (lw_at lw_m0 40 rfl) rfl
theorem q42 : (Jvm.Cond.static ({ cls := "ReedMuller", name := "encodeSub", desc := "([II)V" } : Jvm.MethodName)) ∈ lw_all := lw_g (lw_at lw_m0 41 rfl) rfl
theorem q43 : (Jvm.Cond.code ({ cls := "ReedMuller", name := "encodeSub", desc := "([II)V" } : Jvm.MethodName) prog_4_method_2_code (3 : Nat) (Option.none : Option Jvm.ClassFile.FieldType)) ∈ lw_all := lw_g (lw_at lw_m0 42 rfl) rfl
theorem q44 : (Jvm.Cond.methodLink "ReedMuller" (7 : Nat) ({ cls := "ReedMuller", name := "Bit0Mask", desc := "(I)I" } : Jvm.MethodName)) ∈ lw_all := lw_g (lw_at lw_m0 43 rfl) rfl
theorem q45 : (Jvm.Cond.static ({ cls := "ReedMuller", name := "Bit0Mask", desc := "(I)I" } : Jvm.MethodName)) ∈ lw_all := lw_g (lw_at lw_m0 44 rfl) rfl
theorem q46 : (Jvm.Cond.code ({ cls := "ReedMuller", name := "Bit0Mask", desc := "(I)I" } : Jvm.MethodName) prog_4_method_6_code (1 : Nat) (Option.some Jvm.ClassFile.FieldType.int)) ∈ lw_all := lw_g (lw_at lw_m0 45 rfl) rfl
theorem q47 : (Jvm.Cond.constant "ReedMuller" (13 : Nat) (-1431655766 : Int32)) ∈ lw_all := lw_g (lw_at lw_m0 46 rfl) rfl
theorem q48 : (Jvm.Cond.constant "ReedMuller" (14 : Nat) (-858993460 : Int32)) ∈ lw_all := lw_g (lw_at lw_m0 47 rfl) rfl
theorem q49 : (Jvm.Cond.constant "ReedMuller" (15 : Nat) (-252645136 : Int32)) ∈ lw_all := lw_g (lw_at lw_m0 48 rfl) rfl
theorem q50 : (Jvm.Cond.constant "ReedMuller" (16 : Nat) (-16711936 : Int32)) ∈ lw_all := lw_g (lw_at lw_m0 49 rfl) rfl
theorem q51 : (Jvm.Cond.constant "ReedMuller" (17 : Nat) (-65536 : Int32)) ∈ lw_all := lw_g (lw_at lw_m0 50 rfl) rfl
theorem q52 : (Jvm.Cond.constantLong "ReedMuller" (28 : Nat) (4294967295 : Int64)) ∈ lw_all := lw_g (lw_at lw_m0 51 rfl) rfl
theorem q68 : (Jvm.Cond.static ({ cls := "ReedMuller", name := "decode", desc := "([B[JII)V" } : Jvm.MethodName)) ∈ lw_all := lw_g (lw_at lw_m0 67 rfl) rfl
theorem q69 : (Jvm.Cond.code ({ cls := "ReedMuller", name := "decode", desc := "([B[JII)V" } : Jvm.MethodName) prog_4_method_8_code (8 : Nat) (Option.none : Option Jvm.ClassFile.FieldType)) ∈ lw_all := lw_g (lw_at lw_m0 68 rfl) rfl
theorem q70 : (Jvm.Cond.methodLink "ReedMuller" (30 : Nat) ({ cls := "Utils", name := "fromLongArrayToByte32Array", desc := "([I[J)V" } : Jvm.MethodName)) ∈ lw_all := lw_g (lw_at lw_m0 69 rfl) rfl
theorem q73 : (Jvm.Cond.methodLink "ReedMuller" (36 : Nat) ({ cls := "ReedMuller", name := "expandThenSum", desc := "([I[III)V" } : Jvm.MethodName)) ∈ lw_all := lw_g (lw_at lw_m0 72 rfl) rfl
theorem q74 : (Jvm.Cond.static ({ cls := "ReedMuller", name := "expandThenSum", desc := "([I[III)V" } : Jvm.MethodName)) ∈ lw_all := lw_g (lw_at lw_m0 73 rfl) rfl
theorem q75 : (Jvm.Cond.code ({ cls := "ReedMuller", name := "expandThenSum", desc := "([I[III)V" } : Jvm.MethodName) prog_4_method_4_code (11 : Nat) (Option.none : Option Jvm.ClassFile.FieldType)) ∈ lw_all := lw_g (lw_at lw_m0 74 rfl) rfl
theorem q76 : (Jvm.Cond.methodLink "ReedMuller" (40 : Nat) ({ cls := "ReedMuller", name := "hadamardTransform", desc := "([I[I)V" } : Jvm.MethodName)) ∈ lw_all := lw_g (lw_at lw_m0 75 rfl) rfl
theorem q77 : (Jvm.Cond.static ({ cls := "ReedMuller", name := "hadamardTransform", desc := "([I[I)V" } : Jvm.MethodName)) ∈ lw_all := lw_g (lw_at lw_m0 76 rfl) rfl
theorem q78 : (Jvm.Cond.code ({ cls := "ReedMuller", name := "hadamardTransform", desc := "([I[I)V" } : Jvm.MethodName) prog_4_method_3_code (6 : Nat) (Option.none : Option Jvm.ClassFile.FieldType)) ∈ lw_all := lw_g (lw_at lw_m0 77 rfl) rfl
theorem q79 : (Jvm.Cond.methodLink "ReedMuller" (44 : Nat) ({ cls := "ReedMuller", name := "findPeaks", desc := "([I)I" } : Jvm.MethodName)) ∈ lw_all := lw_g (lw_at lw_m0 78 rfl) rfl
theorem q80 : (Jvm.Cond.static ({ cls := "ReedMuller", name := "findPeaks", desc := "([I)I" } : Jvm.MethodName)) ∈ lw_all := lw_g (lw_at lw_m0 79 rfl) rfl
theorem q81 : (Jvm.Cond.code ({ cls := "ReedMuller", name := "findPeaks", desc := "([I)I" } : Jvm.MethodName) prog_4_method_5_code (8 : Nat) (Option.some Jvm.ClassFile.FieldType.int)) ∈ lw_all := lw_g (lw_at lw_m0 80 rfl) rfl
theorem q82 : (Jvm.Cond.methodLink "ReedMuller" (18 : Nat) ({ cls := "java/lang/Math", name := "max", desc := "(II)I" } : Jvm.MethodName)) ∈ lw_all := lw_g (lw_at lw_m0 81 rfl) rfl
end
section
/-! WRAPPERS of the kit's rows, for this claim: numbers as nI, worlds named by the row, calls and ends by one lemma each. -/
set_option maxRecDepth 100000
abbrev vwCl : List vw_C := [(RX0, TX0, 4), (RX1, TX1, 3)]
theorem hq_c {c : Nat} (h : c < 2 ^ 31 := by omega) : c < 2 ^ 31 := h
theorem hq_fm {α β : Type} {f : α → Option β} : ∀ {is : List α} {w : List β}, is.map f = w.map some → is.filterMap f = w
  | [], [], _ => rfl
  | [], _ :: _, h => by simp at h
  | _ :: _, [], h => by simp at h
  | a :: is, b :: w, h => by
    simp only [List.map_cons, List.cons.injEq] at h
    rw [List.filterMap_cons, h.1]
    simp only [hq_fm h.2]
/-- a world and what the tables say of its arrays' classes, behind a method -/
def hq_B {S : Type} (D : va_G) (W' : S → va_W) (T' : S → List (ClassId × FieldType)) (A : Nat → Prop) : S → State → Prop := fun u t => va_P D vwCl (W' u) t.heap ∧ va_K D vwCl (T' u) t ∧ va_D A (W' u)
abbrev hq_Pc (D : va_G) (As : List Value) (sz : Nat) (wc : va_W) (tc : List (ClassId × FieldType)) : Array Value → State → Prop := va_Pc As (fun U => U.heap.size = sz ∧ va_P D vwCl wc U.heap ∧ va_K D vwCl tc U ∧ va_D (fun _ => True) wc)
/-- the contract of a void method -/
abbrev hq_Mv {S : Type} (l : Launch) (y : MethodName) (cc : ByteArray) (maxL : Nat) (rm : Room) (D : va_G) (As : List Value) (sz : Nat) (wc : va_W) (tc : List (ClassId × FieldType)) (post : S → Prop) (W' : S → va_W) (T' : S → List (ClassId × FieldType)) : Prop :=
  Met l y (ws_ y cc maxL none) rm (hq_Pc D As sz wc tc) (va_Qv post (hq_B D W' T' (va_A wc sz)) (va_A wc sz)) rm.cells rm.slots (va_A wc sz)
/-- the contract of a method that answers an int (or a boolean) -/
abbrev hq_Mi {S : Type} (l : Launch) (y : MethodName) (cc : ByteArray) (maxL : Nat) (rt : FieldType) (rm : Room) (D : va_G) (As : List Value) (sz : Nat) (wc : va_W) (tc : List (ClassId × FieldType)) (post : Int32 → S → Prop) (W' : S → va_W) (T' : S → List (ClassId × FieldType)) : Prop :=
  Met l y (ws_ y cc maxL (some rt)) rm (hq_Pc D As sz wc tc) (va_Qi post (hq_B D W' T' (va_A wc sz)) (va_A wc sz)) rm.cells rm.slots (va_A wc sz)
section HQS
variable {l : Launch} {y : MethodName} {cc : ByteArray} {maxL : Nat} {rm : Room} {D : va_G} {As : List Value} {sz : Nat} {wc : va_W} {tc : List (ClassId × FieldType)}
theorem hq_start {ret : Option FieldType} {Qc : (Nat → Prop) → Array Value → State → Outcome → State → Prop} (hy : plainName y.cls = true) (hlen : (lg_sl As).length ≤ maxL)
    (body : ∀ (p : Program) (e : Env) (s : State) (m : MethodId) (below : List Frame) (meth : Method) (c : Code) (A : Nat → Prop) (ls : Array Slot), p.tables.exec = Jvm.exec → c.code = cc → meth.sig.returnType = ret → c.maxLocals = maxL → s.vm.findClass y.cls = some m.cls → meth.locks = false → meth.name = y.name → (∀ w ∈ lw_all, w.before As.toArray s = true) → va_K D vwCl tc s → va_P D vwCl wc s.heap → va_D A wc → va_S A s.heap s.heap [] → (∀ q : Nat, s.heap.size ≤ q → A q) → lv_has ls maxL (lv_args 0 As) →
      W p l e rm s m As.toArray below meth c s.heap [] 0 0 (MQ below (Qc A) As.toArray s rm.cells rm.slots A) (F0 m 0 ls [])) :
    Met l y (ws_ y cc maxL ret) rm (hq_Pc D As sz wc tc) (Qc (va_A wc sz)) rm.cells rm.slots (va_A wc sz) := by
  refine Met.ofW (cc := cc) (maxL := maxL) (ret := ret) hy rfl ?_
  intro p e s m args below meth c s₁ B hml hv
  obtain ⟨rfl, hsz, hP, hK, hD0⟩ := hv
  subst hsz
  have hts := atoms_spec (ws := ws_ y cc maxL ret) B.pre
  have hts : ∀ w ∈ lw_all, w.before _ s = true := fun w h => hts w (List.mem_cons_of_mem _ h)
  have hD := hD0.self (sz := s.heap.size)
  have hl := lv_entry As (n := maxL) hlen
  rw [lg_entry_eq]
  exact body p e s m below meth c _ _ B.exec B.bytes B.returns hml (findClass_of_methodNamed B.named) B.notSynchronized (name_of_methodNamed B.named B.method).1 hts hK hP hD va_S.rf (fun q h => Or.inr h) hl
theorem hq_startV {S : Type} {post : S → Prop} {W' : S → va_W} {T' : S → List (ClassId × FieldType)} (hy : plainName y.cls = true) (hlen : (lg_sl As).length ≤ maxL)
    (body : ∀ (p : Program) (e : Env) (s : State) (m : MethodId) (below : List Frame) (meth : Method) (c : Code) (A : Nat → Prop) (ls : Array Slot), p.tables.exec = Jvm.exec → c.code = cc → meth.sig.returnType = none → c.maxLocals = maxL → s.vm.findClass y.cls = some m.cls → meth.locks = false → meth.name = y.name → (∀ w ∈ lw_all, w.before As.toArray s = true) → va_K D vwCl tc s → va_P D vwCl wc s.heap → va_D A wc → va_S A s.heap s.heap [] → (∀ q : Nat, s.heap.size ≤ q → A q) → lv_has ls maxL (lv_args 0 As) →
      W p l e rm s m As.toArray below meth c s.heap [] 0 0 (MQ below (va_Qv post (hq_B D W' T' A) A) As.toArray s rm.cells rm.slots A) (F0 m 0 ls [])) :
    hq_Mv l y cc maxL rm D As sz wc tc post W' T' := hq_start (Qc := fun A => va_Qv post (hq_B D W' T' A) A) hy hlen body
theorem hq_startI {S : Type} {post : Int32 → S → Prop} {W' : S → va_W} {T' : S → List (ClassId × FieldType)} {rt : FieldType} (hy : plainName y.cls = true) (hlen : (lg_sl As).length ≤ maxL)
    (body : ∀ (p : Program) (e : Env) (s : State) (m : MethodId) (below : List Frame) (meth : Method) (c : Code) (A : Nat → Prop) (ls : Array Slot), p.tables.exec = Jvm.exec → c.code = cc → meth.sig.returnType = some rt → c.maxLocals = maxL → s.vm.findClass y.cls = some m.cls → meth.locks = false → meth.name = y.name → (∀ w ∈ lw_all, w.before As.toArray s = true) → va_K D vwCl tc s → va_P D vwCl wc s.heap → va_D A wc → va_S A s.heap s.heap [] → (∀ q : Nat, s.heap.size ≤ q → A q) → lv_has ls maxL (lv_args 0 As) →
      W p l e rm s m As.toArray below meth c s.heap [] 0 0 (MQ below (va_Qi post (hq_B D W' T' A) A) As.toArray s rm.cells rm.slots A) (F0 m 0 ls [])) :
    hq_Mi l y cc maxL rt rm D As sz wc tc post W' T' := hq_start (Qc := fun A => va_Qi post (hq_B D W' T' A) A) hy hlen body
end HQS
section HQW
variable {p : Program} {l : Launch} {e : Env} {R : Room} {s : State} {m : MethodId} {args : Array Value} {below : List Frame} {meth : Method} {c : Code} {H : Heap} {locs : List Loc} {cells slots : Nat} {Q : State → Prop}
variable {cc : ByteArray} {pc : Nat} {ls : Array Slot} {rest : List Value} {D : va_G} {cl : List vw_C} {A : Nat → Prop} {a : Nat} {tys : List (ClassId × FieldType)} {ws ws' : va_W} {H0 : Heap}
theorem hq_ti {x : Int32} (y : Int32) (h : x = y) (k : W p l e R s m args below meth c H locs cells slots Q (F0 m pc ls (.int y :: rest))) : W p l e R s m args below meth c H locs cells slots Q (F0 m pc ls (.int x :: rest)) := by rw [h]; exact k
theorem hq_tl {x : Int64} (y : Int64) (h : x = y) (k : W p l e R s m args below meth c H locs cells slots Q (F0 m pc ls (.long y :: rest))) : W p l e R s m args below meth c H locs cells slots Q (F0 m pc ls (.long x :: rest)) := by rw [h]; exact k
theorem hq_add (hx : p.tables.exec = Jvm.exec) (hb : c.code = cc) {x y : Nat} (hdg : decode cc pc = .ok (.iadd, 1)) (k : W p l e R s m args below meth c H locs cells slots Q (F0 m (pc + 1) ls (.int (nI (x + y)) :: rest))) : W p l e R s m args below meth c H locs cells slots Q (F0 m pc ls (.int (nI y) :: .int (nI x) :: rest)) :=
  lv_iadd hx hb hdg (by rw [nI_add]; exact k)
theorem hq_mul (hx : p.tables.exec = Jvm.exec) (hb : c.code = cc) {x y : Nat} (hdg : decode cc pc = .ok (.imul, 1)) (k : W p l e R s m args below meth c H locs cells slots Q (F0 m (pc + 1) ls (.int (nI (x * y)) :: rest))) : W p l e R s m args below meth c H locs cells slots Q (F0 m pc ls (.int (nI y) :: .int (nI x) :: rest)) :=
  lv_imul hx hb hdg (by rw [pk_mul]; exact k)
theorem hq_geF (hx : p.tables.exec = Jvm.exec) (hb : c.code = cc) {x y : Nat} {off : Int} {tgt : Nat} (hdg : decode cc pc = .ok (.if_icmp .ge off, 3)) (ht : (pc : Int) + off = (tgt : Int)) (h : x < y) (hy : y < 2 ^ 31) (k : W p l e R s m args below meth c H locs cells slots Q (F0 m (pc + 3) ls rest)) : W p l e R s m args below meth c H locs cells slots Q (F0 m pc ls (.int (nI y) :: .int (nI x) :: rest)) :=
  lv_icmp_ge hx hb hdg ht (fun z => absurd z (nI_ge h hy)) (fun _ => k)
theorem hq_geT (hx : p.tables.exec = Jvm.exec) (hb : c.code = cc) {x y : Nat} {off : Int} {tgt : Nat} (hdg : decode cc pc = .ok (.if_icmp .ge off, 3)) (ht : (pc : Int) + off = (tgt : Int)) (h : y ≤ x) (hy : x < 2 ^ 31) (k : W p l e R s m args below meth c H locs cells slots Q (F0 m tgt ls rest)) : W p l e R s m args below meth c H locs cells slots Q (F0 m pc ls (.int (nI y) :: .int (nI x) :: rest)) :=
  lv_icmp_ge hx hb hdg ht (fun _ => k) (fun z => absurd (nI_le h hy) z)
theorem hq_inc (hx : p.tables.exec = Jvm.exec) (hb : c.code = cc) {i nL k a d : Nat} {n : Int} {lv lv' : List (Nat × Value)} (hdg : decode cc pc = .ok (.iinc i n, 3)) (h : lv_has ls nL lv) (hk : lv[k]? = some (i, .int (nI a))) (hd : Int32.ofInt n = nI d) (hn : i < nL) (hl : (i, Value.int (nI (a + d))) :: lv.filter (fun q => !(q.1 == i) && !(q.1 + 1 == i && q.2.category == 2)) = lv')
    (kk : ∀ ls' : Array Slot, lv_has ls' nL lv' → W p l e R s m args below meth c H locs cells slots Q (F0 m (pc + 3) ls' rest)) : W p l e R s m args below meth c H locs cells slots Q (F0 m pc ls rest) :=
  lv_iinc hx hb hdg h hk (by rw [hd, nI_add]) hn hl kk
theorem hq_ri (hx : p.tables.exec = Jvm.exec) (hb : c.code = cc) (hK : va_K D cl tys s) (hP : va_P D cl ws H) (q0 t0 : Nat) {cA : ClassId} {n : Nat} {f : Nat → Int32} (ha : ws[q0]? = some (a, .inl (cA, n, .inl f))) (ht : tys[t0]? = some (cA, .int)) {i : Nat} (hi : i < n) (hn : n < 2 ^ 31) (hdg : decode cc pc = .ok (.iaload, 1))
    (kk : W p l e R s m args below meth c H locs cells slots Q (F0 m (pc + 1) ls (.int (f i) :: rest))) : W p l e R s m args below meth c H locs cells slots Q (F0 m pc ls (.int (nI i) :: .ref a :: rest)) :=
  va_iald hx hb hK hP q0 t0 ha ht (vp_in_nI hi hn) hdg (by rw [nI_clamp (Nat.lt_trans hi hn)]; exact kk)
theorem hq_rb (hx : p.tables.exec = Jvm.exec) (hb : c.code = cc) (hK : va_K D cl tys s) (hP : va_P D cl ws H) (q0 t0 : Nat) {cA : ClassId} {n : Nat} {f : Nat → Int32} (ha : ws[q0]? = some (a, .inl (cA, n, .inl f))) (ht : tys[t0]? = some (cA, .byte)) {i : Nat} (hi : i < n) (hn : n < 2 ^ 31) (hdg : decode cc pc = .ok (.baload, 1))
    (kk : W p l e R s m args below meth c H locs cells slots Q (F0 m (pc + 1) ls (.int (f i) :: rest))) : W p l e R s m args below meth c H locs cells slots Q (F0 m pc ls (.int (nI i) :: .ref a :: rest)) :=
  va_bald hx hb hK hP q0 t0 ha ht (vp_in_nI hi hn) hdg (by rw [nI_clamp (Nat.lt_trans hi hn)]; exact kk)
theorem hq_rz (hx : p.tables.exec = Jvm.exec) (hb : c.code = cc) (hK : va_K D cl tys s) (hP : va_P D cl ws H) (q0 t0 : Nat) {cA : ClassId} {n : Nat} {f : Nat → Int32} (ha : ws[q0]? = some (a, .inl (cA, n, .inl f))) (ht : tys[t0]? = some (cA, .boolean)) {i : Nat} (hi : i < n) (hn : n < 2 ^ 31) (hdg : decode cc pc = .ok (.baload, 1))
    (kk : W p l e R s m args below meth c H locs cells slots Q (F0 m (pc + 1) ls (.int (f i) :: rest))) : W p l e R s m args below meth c H locs cells slots Q (F0 m pc ls (.int (nI i) :: .ref a :: rest)) :=
  va_zald hx hb hK hP q0 t0 ha ht (vp_in_nI hi hn) hdg (by rw [nI_clamp (Nat.lt_trans hi hn)]; exact kk)
theorem hq_rl (hx : p.tables.exec = Jvm.exec) (hb : c.code = cc) (hK : va_K D cl tys s) (hP : va_P D cl ws H) (q0 t0 : Nat) {cA : ClassId} {n : Nat} {f : Nat → Int64} (ha : ws[q0]? = some (a, .inl (cA, n, .inr (.inl f)))) (ht : tys[t0]? = some (cA, .long)) {i : Nat} (hi : i < n) (hn : n < 2 ^ 31) (hdg : decode cc pc = .ok (.laload, 1))
    (kk : W p l e R s m args below meth c H locs cells slots Q (F0 m (pc + 1) ls (.long (f i) :: rest))) : W p l e R s m args below meth c H locs cells slots Q (F0 m pc ls (.int (nI i) :: .ref a :: rest)) :=
  va_lald hx hb hK hP q0 t0 ha ht (vp_in_nI hi hn) hdg (by rw [nI_clamp (Nat.lt_trans hi hn)]; exact kk)
theorem hq_si (hx : p.tables.exec = Jvm.exec) (hb : c.code = cc) (hK : va_K D cl tys s) (hP : va_P D cl ws H) (hD : va_D A ws) (hS : va_S A H0 H locs) (q0 t0 : Nat) {cA : ClassId} {n : Nat} {f : Nat → Int32} (ha : ws[q0]? = some (a, .inl (cA, n, .inl f))) (ht : tys[t0]? = some (cA, .int)) {i : Nat} {x : Int32} (hi : i < n) (hn : n < 2 ^ 31) (hw : ws.set q0 (a, .inl (cA, n, .inl (upd f i x))) = ws') (hdg : decode cc pc = .ok (.iastore, 1))
    (kk : ∀ (H1 : Heap) (locs1 : List Loc), va_P D cl ws' H1 → va_D A ws' → va_S A H0 H1 locs1 → W p l e R s m args below meth c H1 locs1 cells slots Q (F0 m (pc + 1) ls rest)) : W p l e R s m args below meth c H locs cells slots Q (F0 m pc ls (.int x :: .int (nI i) :: .ref a :: rest)) := by
  refine va_iast hx hb hK hP hD hS q0 t0 ha ht (vp_in_nI hi hn) hdg (fun H1 locs1 h1 h2 h3 => ?_)
  rw [nI_clamp (Nat.lt_trans hi hn), hw] at h1 h2
  exact kk H1 locs1 h1 h2 h3
theorem hq_sb (hx : p.tables.exec = Jvm.exec) (hb : c.code = cc) (hK : va_K D cl tys s) (hP : va_P D cl ws H) (hD : va_D A ws) (hS : va_S A H0 H locs) (q0 t0 : Nat) {cA : ClassId} {n : Nat} {f : Nat → Int32} (ha : ws[q0]? = some (a, .inl (cA, n, .inl f))) (ht : tys[t0]? = some (cA, .byte)) {i : Nat} {x : Int32} (hi : i < n) (hn : n < 2 ^ 31) (hv : vp_nar .byte x = x) (hw : ws.set q0 (a, .inl (cA, n, .inl (upd f i x))) = ws') (hdg : decode cc pc = .ok (.bastore, 1))
    (kk : ∀ (H1 : Heap) (locs1 : List Loc), va_P D cl ws' H1 → va_D A ws' → va_S A H0 H1 locs1 → W p l e R s m args below meth c H1 locs1 cells slots Q (F0 m (pc + 1) ls rest)) : W p l e R s m args below meth c H locs cells slots Q (F0 m pc ls (.int x :: .int (nI i) :: .ref a :: rest)) := by
  refine va_bast hx hb hK hP hD hS q0 t0 ha ht (vp_in_nI hi hn) hdg (fun H1 locs1 h1 h2 h3 => ?_)
  rw [nI_clamp (Nat.lt_trans hi hn), hv, hw] at h1 h2
  exact kk H1 locs1 h1 h2 h3
theorem hq_sz (hx : p.tables.exec = Jvm.exec) (hb : c.code = cc) (hK : va_K D cl tys s) (hP : va_P D cl ws H) (hD : va_D A ws) (hS : va_S A H0 H locs) (q0 t0 : Nat) {cA : ClassId} {n : Nat} {f : Nat → Int32} (ha : ws[q0]? = some (a, .inl (cA, n, .inl f))) (ht : tys[t0]? = some (cA, .boolean)) {i : Nat} {x : Int32} (hi : i < n) (hn : n < 2 ^ 31) (hv : vp_nar .boolean x = x) (hw : ws.set q0 (a, .inl (cA, n, .inl (upd f i x))) = ws') (hdg : decode cc pc = .ok (.bastore, 1))
    (kk : ∀ (H1 : Heap) (locs1 : List Loc), va_P D cl ws' H1 → va_D A ws' → va_S A H0 H1 locs1 → W p l e R s m args below meth c H1 locs1 cells slots Q (F0 m (pc + 1) ls rest)) : W p l e R s m args below meth c H locs cells slots Q (F0 m pc ls (.int x :: .int (nI i) :: .ref a :: rest)) := by
  refine va_zast hx hb hK hP hD hS q0 t0 ha ht (vp_in_nI hi hn) hdg (fun H1 locs1 h1 h2 h3 => ?_)
  rw [nI_clamp (Nat.lt_trans hi hn), hv, hw] at h1 h2
  exact kk H1 locs1 h1 h2 h3
theorem hq_sl (hx : p.tables.exec = Jvm.exec) (hb : c.code = cc) (hK : va_K D cl tys s) (hP : va_P D cl ws H) (hD : va_D A ws) (hS : va_S A H0 H locs) (q0 t0 : Nat) {cA : ClassId} {n : Nat} {f : Nat → Int64} (ha : ws[q0]? = some (a, .inl (cA, n, .inr (.inl f)))) (ht : tys[t0]? = some (cA, .long)) {i : Nat} {x : Int64} (hi : i < n) (hn : n < 2 ^ 31) (hw : ws.set q0 (a, .inl (cA, n, .inr (.inl (vp_updL f i x)))) = ws') (hdg : decode cc pc = .ok (.lastore, 1))
    (kk : ∀ (H1 : Heap) (locs1 : List Loc), va_P D cl ws' H1 → va_D A ws' → va_S A H0 H1 locs1 → W p l e R s m args below meth c H1 locs1 cells slots Q (F0 m (pc + 1) ls rest)) : W p l e R s m args below meth c H locs cells slots Q (F0 m pc ls (.long x :: .int (nI i) :: .ref a :: rest)) := by
  refine va_last hx hb hK hP hD hS q0 t0 ha ht (vp_in_nI hi hn) hdg (fun H1 locs1 h1 h2 h3 => ?_)
  rw [nI_clamp (Nat.lt_trans hi hn), hw] at h1 h2
  exact kk H1 locs1 h1 h2 h3
theorem hq_alen (hx : p.tables.exec = Jvm.exec) (hb : c.code = cc) (hK : va_K D cl tys s) (hP : va_P D cl ws H) (q0 t0 : Nat) {cA : ClassId} {n : Nat} {b : (Nat → Int32) ⊕ (Nat → Int64) ⊕ (Nat → UInt32) ⊕ (Nat → UInt64) ⊕ (Nat → Option Nat)} (ha : ws[q0]? = some (a, .inl (cA, n, b))) {ty : FieldType} (ht : tys[t0]? = some (cA, ty)) (hdg : decode cc pc = .ok (.arraylength, 1))
    (kk : W p l e R s m args below meth c H locs cells slots Q (F0 m (pc + 1) ls (.int (nI n) :: rest))) : W p l e R s m args below meth c H locs cells slots Q (F0 m pc ls (.ref a :: rest)) :=
  va_alen hx hb hK hP q0 t0 ha ht rfl hdg kk
/-- what a call asks of its world, for any caller -/
theorem hq_pre {As : List Value} {wc : va_W} {tc : List (ClassId × FieldType)} (hPc : va_P D vwCl wc H) (hDc : va_D A wc) (hKc : va_K D vwCl tc s) : PreS s H (hq_Pc D As H.size wc tc) As :=
  ⟨fun a U g mk q => by obtain ⟨q0, q1, qP, qK, qD⟩ := q; exact ⟨q0, q1, qP, va_K.moved (u := U) (U := U.calling g mk a) (Vm.Alike.refl U.vm) qK, qD⟩, fun U hU hW => ⟨rfl, by rw [hU], by rw [hU]; exact hPc, va_K.moved hW.alike hKc, hDc.weaken (fun _ _ _ _ => trivial)⟩⟩
variable {S : Type} {y : MethodName} {bytes : ByteArray} {own : String} {index maxL nL : Nat} {rm : Room} {As st0 : List Value} {wc wr : va_W} {tc tr : List (ClassId × FieldType)} {lv : List (Nat × Value)} {W' : S → va_W} {T' : S → List (ClassId × FieldType)} {cells' slots' : Nat}
theorem hq_callSv {post : S → Prop} (F : CallFix p m c cc nL s args lw_all own) (hM : hq_Mv l y bytes maxL rm D As H.size wc tc post W' T') (n : Nat)
    (g1 : Cond.methodLink own index y ∈ lw_all) (g2 : Cond.static y ∈ lw_all) (g3 : Cond.initialized y.cls ∈ lw_all) (g4 : Cond.code y bytes maxL none ∈ lw_all)
    (hd : y.cls ≠ "java/lang/invoke/MethodHandle" ∧ y.cls ≠ "java/lang/invoke/VarHandle" ∧ (parseMethodDescriptor y.desc).map (fun d => d.parameters.length) = some n) (hn : As.length = n)
    (hR : rm.frames + 1 ≤ R.frames ∧ 8 + (maxL + 11) + rm.locals ≤ R.locals) (hf : cells + rm.cells ≤ R.cells ∧ slots + rm.slots ≤ R.slots) (hc : cells + rm.cells ≤ cells' ∧ slots + rm.slots ≤ slots')
    (hl : lv_has ls nL lv) (hst : st0 = As.reverse ++ rest) (hro : (rest.map fun v => v.category).sum ≤ 8) (hdg : decode cc pc = .ok (.invokestatic index, 3))
    (hK : va_K D vwCl tys s) (hP : va_P D vwCl ws H) (hD : va_D A ws) (hS : va_S A H0 H locs) (hA : ∀ q : Nat, H0.size ≤ q → A q)
    (isC isR : List Nat) (hC : isC.map (fun i => ws[i]?) = wc.map some) (hRr : isR.map (fun i => ws[i]?) = wr.map some) (hnC : va_nd isC = true) (hnR : va_nd isR = true) (hdis : ∀ i ∈ isR, i ∉ isC)
    (tC tR : List Nat) (hT : tC.filterMap (fun i => tys[i]?) = tc) (hTr : tR.filterMap (fun i => tys[i]?) = tr)
    (kk : ∀ (u : S) (H1 : Heap) (locs1 : List Loc), post u → va_K D vwCl (tr ++ T' u) s → va_P D vwCl (wr ++ W' u) H1 → va_D A (wr ++ W' u) → va_S A H0 H1 locs1 → W p l e R s m args below meth c H1 locs1 cells' slots' Q (F0 m (pc + 3) ls rest)) :
    W p l e R s m args below meth c H locs cells slots Q (F0 m pc ls st0) := by
  have hPc := hP.sub (ws' := wc) isC (hq_fm hC)
  have hDc := hD.sub (ws' := wc) isC hnC hC
  have hKc := hK.sub (tys' := tc) tC hT
  have hFc := va_free (wc := wc) hD hS hA isC hC
  refine va_callv (va_runS (As := As) (rest := rest) F hM (va_cwS n F.2.2.2.2 (lw_S g1 g2 g3 g4) rfl rfl rfl hd hR) (hq_pre hPc hDc hKc) rfl hn hl.1 hst (lv_room hro) hdg hf) hS (fun q _ h => hFc q h) hFc (fun u t H1 locs1 ht hvm hw hB hz1 hk1 hS => ?_)
  obtain ⟨hP1, hK1, hD1⟩ := hB
  rw [ht] at hP1
  obtain ⟨hP2, hD2⟩ := va_join (wr := wr) (w1 := W' u) hP hD isC isR hC hRr hnR hdis hk1 hFc hP1 hD1
  exact W.widen hc.1 hc.2 (kk u H1 locs1 hw ((hK.sub (tys' := tr) tR hTr).app (va_K.moved hvm.symm hK1)) hP2 hD2 hS)
theorem hq_callSi {post : Int32 → S → Prop} {rt : FieldType} (F : CallFix p m c cc nL s args lw_all own) (hM : hq_Mi l y bytes maxL rt rm D As H.size wc tc post W' T') (n : Nat)
    (g1 : Cond.methodLink own index y ∈ lw_all) (g2 : Cond.static y ∈ lw_all) (g3 : Cond.initialized y.cls ∈ lw_all) (g4 : Cond.code y bytes maxL (some rt) ∈ lw_all)
    (hd : y.cls ≠ "java/lang/invoke/MethodHandle" ∧ y.cls ≠ "java/lang/invoke/VarHandle" ∧ (parseMethodDescriptor y.desc).map (fun d => d.parameters.length) = some n) (hn : As.length = n)
    (hR : rm.frames + 1 ≤ R.frames ∧ 8 + (maxL + 11) + rm.locals ≤ R.locals) (hf : cells + rm.cells ≤ R.cells ∧ slots + rm.slots ≤ R.slots) (hc : cells + rm.cells ≤ cells' ∧ slots + rm.slots ≤ slots')
    (hl : lv_has ls nL lv) (hst : st0 = As.reverse ++ rest) (hro : (rest.map fun v => v.category).sum ≤ 8) (hdg : decode cc pc = .ok (.invokestatic index, 3))
    (hK : va_K D vwCl tys s) (hP : va_P D vwCl ws H) (hD : va_D A ws) (hS : va_S A H0 H locs) (hA : ∀ q : Nat, H0.size ≤ q → A q)
    (isC isR : List Nat) (hC : isC.map (fun i => ws[i]?) = wc.map some) (hRr : isR.map (fun i => ws[i]?) = wr.map some) (hnC : va_nd isC = true) (hnR : va_nd isR = true) (hdis : ∀ i ∈ isR, i ∉ isC)
    (tC tR : List Nat) (hT : tC.filterMap (fun i => tys[i]?) = tc) (hTr : tR.filterMap (fun i => tys[i]?) = tr)
    (kk : ∀ (r : Int32) (u : S) (H1 : Heap) (locs1 : List Loc), post r u → va_K D vwCl (tr ++ T' u) s → va_P D vwCl (wr ++ W' u) H1 → va_D A (wr ++ W' u) → va_S A H0 H1 locs1 → W p l e R s m args below meth c H1 locs1 cells' slots' Q (F0 m (pc + 3) ls (.int r :: rest))) :
    W p l e R s m args below meth c H locs cells slots Q (F0 m pc ls st0) := by
  have hPc := hP.sub (ws' := wc) isC (hq_fm hC)
  have hDc := hD.sub (ws' := wc) isC hnC hC
  have hKc := hK.sub (tys' := tc) tC hT
  have hFc := va_free (wc := wc) hD hS hA isC hC
  refine va_calli (va_runS (As := As) (rest := rest) F hM (va_cwS n F.2.2.2.2 (lw_S g1 g2 g3 g4) rfl rfl rfl hd hR) (hq_pre hPc hDc hKc) rfl hn hl.1 hst (lv_room hro) hdg hf) hS (fun q _ h => hFc q h) hFc (fun r u t H1 locs1 ht hvm hw hB hz1 hk1 hS => ?_)
  obtain ⟨hP1, hK1, hD1⟩ := hB
  rw [ht] at hP1
  obtain ⟨hP2, hD2⟩ := va_join (wr := wr) (w1 := W' u) hP hD isC isR hC hRr hnR hdis hk1 hFc hP1 hD1
  exact W.widen hc.1 hc.2 (kk r u H1 locs1 hw ((hK.sub (tys' := tr) tR hTr).app (va_K.moved hvm.symm hK1)) hP2 hD2 hS)
theorem hq_callVv {post : S → Prop} {b ci : Nat} {fs : List Value} {q : vw_C} (F : CallFix p m c cc nL s args lw_all own) (hM : hq_Mv l y bytes maxL rm D (.ref b :: As) H.size wc tc post W' T') (n : Nat)
    (hq1 : vwCl[ci]? = some q) (hq2 : wc[0]? = some (b, .inr (ci, fs)))
    (g1 : Cond.methodLink own index y ∈ lw_all) (g2 : Cond.instanceMethod y ∈ lw_all) (g5 : Cond.selects q.1 y y ∈ lw_all) (g3 : Cond.initialized q.1 ∈ lw_all) (g4 : Cond.code y bytes maxL none ∈ lw_all)
    (hd : y.cls = q.1 ∧ y.cls ≠ "java/lang/invoke/MethodHandle" ∧ y.cls ≠ "java/lang/invoke/VarHandle" ∧ (parseMethodDescriptor y.desc).map (fun d => d.parameters.length) = some n) (hn : As.length = n)
    (hR : rm.frames + 1 ≤ R.frames ∧ 8 + (maxL + 11) + rm.locals ≤ R.locals) (hf : cells + rm.cells ≤ R.cells ∧ slots + rm.slots ≤ R.slots) (hc : cells + rm.cells ≤ cells' ∧ slots + rm.slots ≤ slots')
    (hl : lv_has ls nL lv) (hst : st0 = As.reverse ++ .ref b :: rest) (hro : (rest.map fun v => v.category).sum ≤ 8) (hdg : decode cc pc = .ok (.invokevirtual index, 3))
    (hK : va_K D vwCl tys s) (hP : va_P D vwCl ws H) (hD : va_D A ws) (hS : va_S A H0 H locs) (hA : ∀ q : Nat, H0.size ≤ q → A q)
    (isC isR : List Nat) (hC : isC.map (fun i => ws[i]?) = wc.map some) (hRr : isR.map (fun i => ws[i]?) = wr.map some) (hnC : va_nd isC = true) (hnR : va_nd isR = true) (hdis : ∀ i ∈ isR, i ∉ isC)
    (tC tR : List Nat) (hT : tC.filterMap (fun i => tys[i]?) = tc) (hTr : tR.filterMap (fun i => tys[i]?) = tr)
    (kk : ∀ (u : S) (H1 : Heap) (locs1 : List Loc), post u → va_K D vwCl (tr ++ T' u) s → va_P D vwCl (wr ++ W' u) H1 → va_D A (wr ++ W' u) → va_S A H0 H1 locs1 → W p l e R s m args below meth c H1 locs1 cells' slots' Q (F0 m (pc + 3) ls rest)) :
    W p l e R s m args below meth c H locs cells slots Q (F0 m pc ls st0) := by
  have hPc := hP.sub (ws' := wc) isC (hq_fm hC)
  have hDc := hD.sub (ws' := wc) isC hnC hC
  have hKc := hK.sub (tys' := tc) tC hT
  have hFc := va_free (wc := wc) hD hS hA isC hC
  have hpr := hq_pre (As := .ref b :: As) hPc hDc hKc
  refine va_callv (va_runV (As := As) (rest := rest) F hM (cwV n F.2.2.2.2 (lw_V g1 g2 g5 g3 g4) rfl rfl rfl hd hR) ⟨hpr.1, va_recv hKc hPc hq1 hq2, hpr.2⟩ rfl hn hl.1 hst (lv_room hro) hdg hf) hS (fun q _ h => hFc q h) hFc (fun u t H1 locs1 ht hvm hw hB hz1 hk1 hS => ?_)
  obtain ⟨hP1, hK1, hD1⟩ := hB
  rw [ht] at hP1
  obtain ⟨hP2, hD2⟩ := va_join (wr := wr) (w1 := W' u) hP hD isC isR hC hRr hnR hdis hk1 hFc hP1 hD1
  exact W.widen hc.1 hc.2 (kk u H1 locs1 hw ((hK.sub (tys' := tr) tR hTr).app (va_K.moved hvm.symm hK1)) hP2 hD2 hS)
theorem hq_callVi {post : Int32 → S → Prop} {rt : FieldType} {b ci : Nat} {fs : List Value} {q : vw_C} (F : CallFix p m c cc nL s args lw_all own) (hM : hq_Mi l y bytes maxL rt rm D (.ref b :: As) H.size wc tc post W' T') (n : Nat)
    (hq1 : vwCl[ci]? = some q) (hq2 : wc[0]? = some (b, .inr (ci, fs)))
    (g1 : Cond.methodLink own index y ∈ lw_all) (g2 : Cond.instanceMethod y ∈ lw_all) (g5 : Cond.selects q.1 y y ∈ lw_all) (g3 : Cond.initialized q.1 ∈ lw_all) (g4 : Cond.code y bytes maxL (some rt) ∈ lw_all)
    (hd : y.cls = q.1 ∧ y.cls ≠ "java/lang/invoke/MethodHandle" ∧ y.cls ≠ "java/lang/invoke/VarHandle" ∧ (parseMethodDescriptor y.desc).map (fun d => d.parameters.length) = some n) (hn : As.length = n)
    (hR : rm.frames + 1 ≤ R.frames ∧ 8 + (maxL + 11) + rm.locals ≤ R.locals) (hf : cells + rm.cells ≤ R.cells ∧ slots + rm.slots ≤ R.slots) (hc : cells + rm.cells ≤ cells' ∧ slots + rm.slots ≤ slots')
    (hl : lv_has ls nL lv) (hst : st0 = As.reverse ++ .ref b :: rest) (hro : (rest.map fun v => v.category).sum ≤ 8) (hdg : decode cc pc = .ok (.invokevirtual index, 3))
    (hK : va_K D vwCl tys s) (hP : va_P D vwCl ws H) (hD : va_D A ws) (hS : va_S A H0 H locs) (hA : ∀ q : Nat, H0.size ≤ q → A q)
    (isC isR : List Nat) (hC : isC.map (fun i => ws[i]?) = wc.map some) (hRr : isR.map (fun i => ws[i]?) = wr.map some) (hnC : va_nd isC = true) (hnR : va_nd isR = true) (hdis : ∀ i ∈ isR, i ∉ isC)
    (tC tR : List Nat) (hT : tC.filterMap (fun i => tys[i]?) = tc) (hTr : tR.filterMap (fun i => tys[i]?) = tr)
    (kk : ∀ (r : Int32) (u : S) (H1 : Heap) (locs1 : List Loc), post r u → va_K D vwCl (tr ++ T' u) s → va_P D vwCl (wr ++ W' u) H1 → va_D A (wr ++ W' u) → va_S A H0 H1 locs1 → W p l e R s m args below meth c H1 locs1 cells' slots' Q (F0 m (pc + 3) ls (.int r :: rest))) :
    W p l e R s m args below meth c H locs cells slots Q (F0 m pc ls st0) := by
  have hPc := hP.sub (ws' := wc) isC (hq_fm hC)
  have hDc := hD.sub (ws' := wc) isC hnC hC
  have hKc := hK.sub (tys' := tc) tC hT
  have hFc := va_free (wc := wc) hD hS hA isC hC
  have hpr := hq_pre (As := .ref b :: As) hPc hDc hKc
  refine va_calli (va_runV (As := As) (rest := rest) F hM (cwV n F.2.2.2.2 (lw_V g1 g2 g5 g3 g4) rfl rfl rfl hd hR) ⟨hpr.1, va_recv hKc hPc hq1 hq2, hpr.2⟩ rfl hn hl.1 hst (lv_room hro) hdg hf) hS (fun q _ h => hFc q h) hFc (fun r u t H1 locs1 ht hvm hw hB hz1 hk1 hS => ?_)
  obtain ⟨hP1, hK1, hD1⟩ := hB
  rw [ht] at hP1
  obtain ⟨hP2, hD2⟩ := va_join (wr := wr) (w1 := W' u) hP hD isC isR hC hRr hnR hdis hk1 hFc hP1 hD1
  exact W.widen hc.1 hc.2 (kk r u H1 locs1 hw ((hK.sub (tys' := tr) tR hTr).app (va_K.moved hvm.symm hK1)) hP2 hD2 hS)
theorem hq_callI {post : S → Prop} {b : Nat} (F : CallFix p m c cc nL s args lw_all own) (hM : hq_Mv l y bytes maxL rm D (.ref b :: As) H.size wc tc post W' T') (n : Nat)
    (g1 : Cond.methodLink own index y ∈ lw_all) (g2 : Cond.instanceMethod y ∈ lw_all) (g3 : Cond.initialized y.cls ∈ lw_all) (g4 : Cond.code y bytes maxL none ∈ lw_all) (hy1 : y.name = "<init>")
    (hd : y.cls ≠ "java/lang/invoke/MethodHandle" ∧ y.cls ≠ "java/lang/invoke/VarHandle" ∧ (parseMethodDescriptor y.desc).map (fun d => d.parameters.length) = some n) (hn : As.length = n)
    (hR : rm.frames + 1 ≤ R.frames ∧ 8 + (maxL + 11) + rm.locals ≤ R.locals) (hf : cells + rm.cells ≤ R.cells ∧ slots + rm.slots ≤ R.slots) (hc : cells + rm.cells ≤ cells' ∧ slots + rm.slots ≤ slots')
    (hl : lv_has ls nL lv) (hst : st0 = As.reverse ++ .ref b :: rest) (hro : (rest.map fun v => v.category).sum ≤ 8) (hdg : decode cc pc = .ok (.invokespecial index, 3))
    (hK : va_K D vwCl tys s) (hP : va_P D vwCl ws H) (hD : va_D A ws) (hS : va_S A H0 H locs) (hA : ∀ q : Nat, H0.size ≤ q → A q)
    (isC isR : List Nat) (hC : isC.map (fun i => ws[i]?) = wc.map some) (hRr : isR.map (fun i => ws[i]?) = wr.map some) (hnC : va_nd isC = true) (hnR : va_nd isR = true) (hdis : ∀ i ∈ isR, i ∉ isC)
    (tC tR : List Nat) (hT : tC.filterMap (fun i => tys[i]?) = tc) (hTr : tR.filterMap (fun i => tys[i]?) = tr)
    (kk : ∀ (u : S) (H1 : Heap) (locs1 : List Loc), post u → va_K D vwCl (tr ++ T' u) s → va_P D vwCl (wr ++ W' u) H1 → va_D A (wr ++ W' u) → va_S A H0 H1 locs1 → W p l e R s m args below meth c H1 locs1 cells' slots' Q (F0 m (pc + 3) ls rest)) :
    W p l e R s m args below meth c H locs cells slots Q (F0 m pc ls st0) := by
  have hPc := hP.sub (ws' := wc) isC (hq_fm hC)
  have hDc := hD.sub (ws' := wc) isC hnC hC
  have hKc := hK.sub (tys' := tc) tC hT
  have hFc := va_free (wc := wc) hD hS hA isC hC
  have hpr := hq_pre (As := .ref b :: As) hPc hDc hKc
  refine va_callv (va_runI (As := As) (rest := rest) F hM (cwI n F.2.2.2.2 (lw_meth g4) rfl rfl rfl (F.2.2.2.2 _ g3) (F.2.2.2.2 _ g1) (F.2.2.2.2 _ g2) hy1 hd hR) hpr rfl hn hl.1 hst (lv_room hro) hdg hf) hS (fun q _ h => hFc q h) hFc (fun u t H1 locs1 ht hvm hw hB hz1 hk1 hS => ?_)
  obtain ⟨hP1, hK1, hD1⟩ := hB
  rw [ht] at hP1
  obtain ⟨hP2, hD2⟩ := va_join (wr := wr) (w1 := W' u) hP hD isC isR hC hRr hnR hdis hk1 hFc hP1 hD1
  exact W.widen hc.1 hc.2 (kk u H1 locs1 hw ((hK.sub (tys' := tr) tR hTr).app (va_K.moved hvm.symm hK1)) hP2 hD2 hS)
theorem hq_vret {post : S → Prop} (hx : p.tables.exec = Jvm.exec) (hb : c.code = cc) (hr : meth.sig.returnType = none) (hlocks : meth.locks = false) (hdg : decode cc pc = .ok (.return_, 1))
    (hK : va_K D vwCl tys s) (hP : va_P D vwCl ws H) (hD : va_D A ws) (hS : va_S A s.heap H locs) (u : S) (hp : post u) (hc : cells ≤ cells' ∧ slots ≤ slots')
    (is : List Nat) (h1 : is.map (fun i => ws[i]?) = (W' u).map some) (hn : va_nd is = true) (ts : List Nat) (h3 : ts.filterMap (fun i => tys[i]?) = T' u) :
    W p l e R s m args below meth c H locs cells slots (MQ below (va_Qv post (hq_B D W' T' A) A) args s cells' slots' A) (F0 m pc ls []) := by
  have hP9 := hP.sub (ws' := W' u) is (hq_fm h1)
  have hD9 := hD.sub (ws' := W' u) is hn h1
  have hK9 := hK.sub (tys' := T' u) ts h3
  refine W.widen hc.1 hc.2 ?_
  exact W.vret hx hb hr (fun t ht hW => ⟨⟨u, rfl, hp, by rw [ht]; exact hP9, va_K.moved hW.alike hK9, hD9⟩, hS.F ht⟩) hS.2.2 hdg
theorem hq_iret {post : Int32 → S → Prop} {v : Int32} (hx : p.tables.exec = Jvm.exec) (hb : c.code = cc) (hr : meth.sig.returnType = some .int) (hlocks : meth.locks = false) (hdg : decode cc pc = .ok (.ireturn, 1))
    (hK : va_K D vwCl tys s) (hP : va_P D vwCl ws H) (hD : va_D A ws) (hS : va_S A s.heap H locs) (u : S) (hp : post v u) (hc : cells ≤ cells' ∧ slots ≤ slots')
    (is : List Nat) (h1 : is.map (fun i => ws[i]?) = (W' u).map some) (hn : va_nd is = true) (ts : List Nat) (h3 : ts.filterMap (fun i => tys[i]?) = T' u) :
    W p l e R s m args below meth c H locs cells slots (MQ below (va_Qi post (hq_B D W' T' A) A) args s cells' slots' A) (F0 m pc ls [.int v]) := by
  have hP9 := hP.sub (ws' := W' u) is (hq_fm h1)
  have hD9 := hD.sub (ws' := W' u) is hn h1
  have hK9 := hK.sub (tys' := T' u) ts h3
  refine W.widen hc.1 hc.2 ?_
  exact W.iret (v := v) hx hb hr (fun t ht hW => ⟨⟨v, u, rfl, hp, by rw [ht]; exact hP9, va_K.moved hW.alike hK9, hD9⟩, hS.F ht⟩) hS.2.2 hdg
theorem hq_zret {post : Int32 → S → Prop} {v : Int32} (hx : p.tables.exec = Jvm.exec) (hb : c.code = cc) (hr : meth.sig.returnType = some .boolean) (hlocks : meth.locks = false) (hdg : decode cc pc = .ok (.ireturn, 1)) (hv : narrow .boolean (.int v) = .int v)
    (hK : va_K D vwCl tys s) (hP : va_P D vwCl ws H) (hD : va_D A ws) (hS : va_S A s.heap H locs) (u : S) (hp : post v u) (hc : cells ≤ cells' ∧ slots ≤ slots')
    (is : List Nat) (h1 : is.map (fun i => ws[i]?) = (W' u).map some) (hn : va_nd is = true) (ts : List Nat) (h3 : ts.filterMap (fun i => tys[i]?) = T' u) :
    W p l e R s m args below meth c H locs cells slots (MQ below (va_Qi post (hq_B D W' T' A) A) args s cells' slots' A) (F0 m pc ls [.int v]) := by
  have hP9 := hP.sub (ws' := W' u) is (hq_fm h1)
  have hD9 := hD.sub (ws' := W' u) is hn h1
  have hK9 := hK.sub (tys' := T' u) ts h3
  refine W.widen hc.1 hc.2 ?_
  exact W.zret (v := v) hx hb hr hv (fun t ht hW => ⟨⟨v, u, rfl, hp, by rw [ht]; exact hP9, va_K.moved hW.alike hK9, hD9⟩, hS.F ht⟩) hS.2.2 hdg
/-- the goal at a place of the code, for every heap that holds the world -/
abbrev hq_At (p : Program) (l : Launch) (e : Env) (R : Room) (s : State) (m : MethodId) (args : Array Value) (below : List Frame) (meth : Method) (c : Code) (cells slots : Nat) (Q : State → Prop) (D : va_G) (A : Nat → Prop) (H0 : Heap) (nL : Nat) (tys : List (ClassId × FieldType)) (ws : va_W) (lv : List (Nat × Value)) (pc : Nat) : Prop :=
  ∀ (H : Heap) (locs : List Loc) (ls : Array Slot), va_K D vwCl tys s → va_P D vwCl ws H → va_D A ws → va_S A H0 H locs → lv_has ls nL lv → W p l e R s m args below meth c H locs cells slots Q (F0 m pc ls [])
end HQW
end
section
/-! PURE: bits, the code, sums, the transform, the law of decoding -/
set_option maxRecDepth 100000
/-! ===== Int32 by its bits: bt x i ===== -/
def bt (x : Int32) (i : Nat) : Bool := x.toBitVec.getLsbD i
theorem b_ext {x y : Int32} (h : ∀ i, i < 32 → bt x i = bt y i) : x = y := Int32.toBitVec_inj.mp (BitVec.eq_of_getLsbD_eq (fun i hi => h i hi))
theorem b_or (x y : Int32) (i : Nat) : bt (x ||| y) i = (bt x i || bt y i) := by unfold bt; rw [Int32.toBitVec_or, BitVec.getLsbD_or]
theorem b_and (x y : Int32) (i : Nat) : bt (x &&& y) i = (bt x i && bt y i) := by unfold bt; rw [Int32.toBitVec_and, BitVec.getLsbD_and]
theorem b_xor (x y : Int32) (i : Nat) : bt (x ^^^ y) i = (bt x i ^^ bt y i) := by unfold bt; rw [Int32.toBitVec_xor, BitVec.getLsbD_xor]
theorem b_big {x : Int32} {i : Nat} (h : 32 ≤ i) : bt x i = false := BitVec.getLsbD_of_ge _ _ h
theorem b_255 (i : Nat) : bt 255 i = decide (i < 8) := by
  rcases Nat.lt_or_ge i 32 with h | h
  · exact (by decide +kernel : ∀ i, i < 32 → bt 255 i = decide (i < 8)) i h
  · rw [b_big h, decide_eq_false (by omega)]
theorem b_65535 (i : Nat) : bt 65535 i = decide (i < 16) := by
  rcases Nat.lt_or_ge i 32 with h | h
  · exact (by decide +kernel : ∀ i, i < 32 → bt 65535 i = decide (i < 16)) i h
  · rw [b_big h, decide_eq_false (by omega)]
theorem b_m1 : ∀ i, i < 32 → bt (-1) i = true := by decide +kernel
theorem b_0 (i : Nat) : bt 0 i = false := BitVec.getLsbD_zero
theorem s_l : ∀ n, n < 32 → ((nI n &&& 31).toBitVec.smod 32).toNat = n := by decide +kernel
theorem s_u : ∀ n, n < 32 → (((nI n).toUInt32 &&& Int32.toUInt32 31).toBitVec % 32).toNat = n := by decide +kernel
theorem b_shl (n : Nat) (hn : n < 32) (x : Int32) {i : Nat} (hi : i < 32) : bt (x <<< (nI n &&& 31)) i = (decide (n ≤ i) && bt x (i - n)) := by
  unfold bt
  rw [Int32.toBitVec_shiftLeft]
  show (x.toBitVec <<< ((nI n &&& 31).toBitVec.smod 32).toNat).getLsbD i = _
  rw [s_l n hn, BitVec.getLsbD_shiftLeft]
  rcases Nat.lt_or_ge i n with h | h
  · simp [h, Nat.not_le.mpr h]
  · simp [hi, h, Nat.not_lt.mpr h]
theorem b_ushr (n : Nat) (hn : n < 32) (x : Int32) (i : Nat) : bt ((x.toUInt32 >>> ((nI n).toUInt32 &&& Int32.toUInt32 31)).toInt32) i = bt x (n + i) := by
  show (x.toUInt32 >>> ((nI n).toUInt32 &&& Int32.toUInt32 31)).toBitVec.getLsbD i = x.toUInt32.toBitVec.getLsbD (n + i)
  rw [UInt32.toBitVec_shiftRight]
  show (x.toUInt32.toBitVec >>> (((nI n).toUInt32 &&& Int32.toUInt32 31).toBitVec % 32).toNat).getLsbD i = _
  rw [s_u n hn, BitVec.getLsbD_ushiftRight]
theorem b_sshr (n : Nat) (hn : n < 32) (x : Int32) {i : Nat} (hi : i < 32) : bt (x >>> (nI n &&& 31)) i = if n + i < 32 then bt x (n + i) else bt x 31 := by
  unfold bt
  rw [Int32.toBitVec_shiftRight]
  show (x.toBitVec.sshiftRight ((nI n &&& 31).toBitVec.smod 32).toNat).getLsbD i = _
  rw [s_l n hn, BitVec.getLsbD_sshiftRight, BitVec.msb_eq_getLsbD_last]
  simp [hi]
theorem b_shl8 (x : Int32) {i : Nat} (hi : i < 32) : bt (x <<< ((8 : Int32) &&& 31)) i = (decide (8 ≤ i) && bt x (i - 8)) := b_shl 8 (by omega) x hi
theorem b_shl16 (x : Int32) {i : Nat} (hi : i < 32) : bt (x <<< ((16 : Int32) &&& 31)) i = (decide (16 ≤ i) && bt x (i - 16)) := b_shl 16 (by omega) x hi
theorem b_shl24 (x : Int32) {i : Nat} (hi : i < 32) : bt (x <<< ((24 : Int32) &&& 31)) i = (decide (24 ≤ i) && bt x (i - 24)) := b_shl 24 (by omega) x hi
theorem b_sshr8 (x : Int32) {i : Nat} (hi : i < 32) : bt (x >>> ((8 : Int32) &&& 31)) i = if 8 + i < 32 then bt x (8 + i) else bt x 31 := b_sshr 8 (by omega) x hi
/-! ===== sums ===== -/
def hq_i (b : Bool) : Int32 := if b then 1 else 0
def hq_n (b : Bool) : Nat := if b then 1 else 0
def hq_sn (f : Nat → Nat) : Nat → Nat
  | 0 => 0
  | n + 1 => hq_sn f n + f n
def hq_su (f : Nat → Int) : Nat → Int
  | 0 => 0
  | n + 1 => hq_su f n + f n
theorem hq_sn_congr {f g : Nat → Nat} : ∀ {n : Nat}, (∀ k, k < n → f k = g k) → hq_sn f n = hq_sn g n
  | 0, _ => rfl
  | n + 1, h => by
    show hq_sn f n + f n = hq_sn g n + g n
    rw [hq_sn_congr (n := n) (fun k hk => h k (by omega)), h n (by omega)]
theorem hq_sn_le {f g : Nat → Nat} : ∀ {n : Nat}, (∀ k, k < n → f k ≤ g k) → hq_sn f n ≤ hq_sn g n
  | 0, _ => Nat.le_refl _
  | n + 1, h => by
    show hq_sn f n + f n ≤ hq_sn g n + g n
    have h1 := hq_sn_le (n := n) (fun k hk => h k (by omega))
    have h2 := h n (by omega)
    omega
theorem hq_sn_add (f g : Nat → Nat) : ∀ n : Nat, hq_sn (fun k => f k + g k) n = hq_sn f n + hq_sn g n
  | 0 => rfl
  | n + 1 => by
    show hq_sn (fun k => f k + g k) n + (f n + g n) = (hq_sn f n + f n) + (hq_sn g n + g n)
    rw [hq_sn_add f g n]
    omega
theorem hq_sn_mul (c : Nat) (f : Nat → Nat) : ∀ n : Nat, hq_sn (fun k => c * f k) n = c * hq_sn f n
  | 0 => rfl
  | n + 1 => by
    show hq_sn (fun k => c * f k) n + c * f n = c * (hq_sn f n + f n)
    rw [hq_sn_mul c f n, Nat.mul_add]
theorem hq_sn_cat (f : Nat → Nat) (a : Nat) : ∀ b : Nat, hq_sn f (a + b) = hq_sn f a + hq_sn (fun k => f (a + k)) b
  | 0 => rfl
  | b + 1 => by
    show hq_sn f (a + b) + f (a + b) = hq_sn f a + (hq_sn (fun k => f (a + k)) b + f (a + b))
    rw [hq_sn_cat f a b]
    omega
theorem hq_sn_mono (f : Nat → Nat) {a b : Nat} (h : a ≤ b) : hq_sn f a ≤ hq_sn f b := by
  obtain ⟨d, rfl⟩ := Nat.le.dest h
  rw [hq_sn_cat]
  omega
theorem hq_sn_one (a : Nat) : ∀ n : Nat, hq_sn (fun k => hq_n (decide (k = a))) n ≤ (if a < n then 1 else 0)
  | 0 => by simp [hq_sn]
  | n + 1 => by
    show hq_sn (fun k => hq_n (decide (k = a))) n + hq_n (decide (n = a)) ≤ _
    have h := hq_sn_one a n
    by_cases e : n = a
    · subst e
      rw [if_neg (Nat.lt_irrefl _)] at h
      rw [if_pos (Nat.lt_succ_self _)]
      have : hq_n (decide (n = n)) = 1 := by simp [hq_n]
      omega
    · have : hq_n (decide (n = a)) = 0 := by simp [hq_n, e]
      rw [this]
      by_cases e2 : a < n
      · rw [if_pos e2] at h
        rw [if_pos (by omega)]
        omega
      · rw [if_neg e2] at h
        rw [if_neg (by omega)]
        omega
theorem hq_su_congr {f g : Nat → Int} : ∀ {n : Nat}, (∀ k, k < n → f k = g k) → hq_su f n = hq_su g n
  | 0, _ => rfl
  | n + 1, h => by
    show hq_su f n + f n = hq_su g n + g n
    rw [hq_su_congr (n := n) (fun k hk => h k (by omega)), h n (by omega)]
theorem hq_su_cat (f : Nat → Int) (a : Nat) : ∀ b : Nat, hq_su f (a + b) = hq_su f a + hq_su (fun k => f (a + k)) b
  | 0 => by simp [hq_su]
  | b + 1 => by
    show hq_su f (a + b) + f (a + b) = hq_su f a + (hq_su (fun k => f (a + k)) b + f (a + b))
    rw [hq_su_cat f a b]
    omega
theorem hq_su_neg (f : Nat → Int) : ∀ n : Nat, hq_su (fun k => -f k) n = -hq_su f n
  | 0 => rfl
  | n + 1 => by
    show hq_su (fun k => -f k) n + -f n = -(hq_su f n + f n)
    rw [hq_su_neg f n]
    omega
theorem hq_su_sn {f : Nat → Int} {d w : Nat → Nat} {c : Int} : ∀ {n : Nat}, (∀ k, k < n → f k = (d k : Int) - c * (w k : Int)) → hq_su f n = (hq_sn d n : Int) - c * (hq_sn w n : Int)
  | 0, _ => by simp [hq_su, hq_sn]
  | n + 1, h => by
    show hq_su f n + f n = ((hq_sn d n + d n : Nat) : Int) - c * ((hq_sn w n + w n : Nat) : Int)
    rw [hq_su_sn (n := n) (fun k hk => h k (by omega)), h n (by omega), Int.natCast_add, Int.natCast_add, Int.mul_add]
    omega
/-! ===== the code ===== -/
/-- the first i steps of place j of the word of the letter v -/
def hq_rp (v j : Nat) : Nat → Bool
  | 0 => v.testBit 7
  | i + 1 => hq_rp v j i ^^ (v.testBit i && j.testBit i)
/-- place j of the word of the letter v -/
def hq_rm (v j : Nat) : Bool := hq_rp v j 7
theorem hq_bool5 : ∀ a b p q x : Bool, ((a ^^ b) ^^ ((p ^^ q) && x)) = ((a ^^ (p && x)) ^^ (b ^^ (q && x))) := by decide
theorem hq_rp_xor (v u j : Nat) : ∀ i : Nat, hq_rp (v ^^^ u) j i = (hq_rp v j i ^^ hq_rp u j i)
  | 0 => by show (v ^^^ u).testBit 7 = _; rw [Nat.testBit_xor]; rfl
  | i + 1 => by
    show (hq_rp (v ^^^ u) j i ^^ ((v ^^^ u).testBit i && j.testBit i)) = ((hq_rp v j i ^^ (v.testBit i && j.testBit i)) ^^ (hq_rp u j i ^^ (u.testBit i && j.testBit i)))
    rw [hq_rp_xor v u j i, Nat.testBit_xor]
    exact hq_bool5 _ _ _ _ _
theorem hq_hi : ∀ v, v < 128 → ((v + 128).testBit 7 = true ∧ v.testBit 7 = false ∧ ∀ i, i < 7 → (v + 128).testBit i = v.testBit i) := by decide +kernel
theorem hq_rp_hi {v : Nat} (hv : v < 128) (j : Nat) : ∀ i : Nat, i ≤ 7 → hq_rp (v + 128) j i = !hq_rp v j i
  | 0, _ => by show (v + 128).testBit 7 = !v.testBit 7; rw [(hq_hi v hv).1, (hq_hi v hv).2.1]; rfl
  | i + 1, h => by
    show (hq_rp (v + 128) j i ^^ ((v + 128).testBit i && j.testBit i)) = !(hq_rp v j i ^^ (v.testBit i && j.testBit i))
    rw [hq_rp_hi hv j i (by omega), (hq_hi v hv).2.2 i (by omega)]
    exact (by decide : ∀ a b : Bool, (!a ^^ b) = !(a ^^ b)) _ _
theorem hq_rm_hi {v : Nat} (hv : v < 128) (j : Nat) : hq_rm (v + 128) j = !hq_rm v j := hq_rp_hi hv j 7 (Nat.le_refl _)
def hq_wt (v : Nat) : Nat := hq_sn (fun j => hq_n (hq_rm v j)) 128
theorem hq_wt_lo : ∀ k, k < 128 → 0 < k → hq_wt k = 64 := by decide +kernel
theorem hq_wt_0 : hq_wt 0 = 0 := by decide +kernel
theorem hq_n_not (b : Bool) : hq_n b + hq_n (!b) = 1 := by cases b <;> rfl
theorem hq_sn_const (c : Nat) : ∀ n : Nat, hq_sn (fun _ => c) n = c * n
  | 0 => rfl
  | n + 1 => by
    show hq_sn (fun _ => c) n + c = c * (n + 1)
    rw [hq_sn_const c n, Nat.mul_add]
    omega
theorem hq_wt_hi {v : Nat} (hv : v < 128) : hq_wt v + hq_wt (v + 128) = 128 := by
  unfold hq_wt
  rw [← hq_sn_add]
  rw [hq_sn_congr (g := fun _ => 1) (fun j _ => by show hq_n (hq_rm v j) + hq_n (hq_rm (v + 128) j) = 1; rw [hq_rm_hi hv]; exact hq_n_not _)]
  rw [hq_sn_const]
theorem hq_wt_ge {v : Nat} (h0 : 0 < v) (hv : v < 256) : 64 ≤ hq_wt v := by
  by_cases h : v < 128
  · rw [hq_wt_lo v h h0]
    omega
  · obtain ⟨k, rfl⟩ : ∃ k, v = k + 128 := ⟨v - 128, by omega⟩
    have h1 := hq_wt_hi (v := k) (by omega)
    by_cases hk : 0 < k
    · rw [hq_wt_lo k (by omega) hk] at h1
      omega
    · rw [show k = 0 by omega, hq_wt_0] at h1
      rw [show k = 0 by omega]
      omega
theorem hq_dist {v u : Nat} (hv : v < 256) (hu : u < 256) (h : v ≠ u) : 64 ≤ hq_sn (fun j => hq_n (hq_rm v j ^^ hq_rm u j)) 128 := by
  have h1 : v ^^^ u < 256 := Nat.xor_lt_two_pow (n := 8) hv hu
  have h2 : 0 < v ^^^ u := by
    rcases Nat.eq_zero_or_pos (v ^^^ u) with z | z
    · exact absurd (Nat.eq_of_testBit_eq (fun i => (by decide : ∀ a b : Bool, (a ^^ b) = false → a = b) _ _ (by rw [← Nat.testBit_xor, z, Nat.zero_testBit]))) h
    · exact z
  have h3 := hq_wt_ge h2 h1
  unfold hq_wt at h3
  rw [hq_sn_congr (g := fun j => hq_n (hq_rm v j ^^ hq_rm u j)) (fun j _ => by show hq_n (hq_rm (v ^^^ u) j) = _; unfold hq_rm; rw [hq_rp_xor])] at h3
  exact h3
/-! ===== a block of three words against a letter ===== -/
def hq_d (wd : Nat → Bool) (i v j : Nat) : Nat := hq_sn (fun c => hq_n (wd (i * 384 + c * 128 + j) ^^ hq_rm v j)) 3
def hq_D (wd : Nat → Bool) (i v : Nat) : Nat := hq_sn (hq_d wd i v) 128
def hq_F (wd : Nat → Bool) (i j : Nat) : Nat := hq_sn (fun c => hq_n (wd (i * 384 + c * 128 + j))) 3
theorem hq_dF0 : ∀ a b c r : Bool, (if r = true then (-1 : Int) else 1) * ((0 + hq_n a + hq_n b + hq_n c : Nat) : Int) = ((0 + hq_n (a ^^ r) + hq_n (b ^^ r) + hq_n (c ^^ r) : Nat) : Int) - 3 * (hq_n r : Int) := by decide
theorem hq_dT0 : ∀ a b c r q : Bool, 3 * hq_n (r ^^ q) ≤ (0 + hq_n (a ^^ r) + hq_n (b ^^ r) + hq_n (c ^^ r)) + (0 + hq_n (a ^^ q) + hq_n (b ^^ q) + hq_n (c ^^ q)) := by decide
theorem hq_dN0 : ∀ a b c r : Bool, (0 + hq_n (a ^^ r) + hq_n (b ^^ r) + hq_n (c ^^ r)) + (0 + hq_n (a ^^ !r) + hq_n (b ^^ !r) + hq_n (c ^^ !r)) = 3 := by decide
theorem hq_tri (wd : Nat → Bool) (i : Nat) {v u : Nat} (hv : v < 256) (hu : u < 256) (h : v ≠ u) : 192 ≤ hq_D wd i v + hq_D wd i u := by
  have h1 := hq_dist hv hu h
  unfold hq_D
  rw [← hq_sn_add]
  have h2 : hq_sn (fun j => 3 * hq_n (hq_rm v j ^^ hq_rm u j)) 128 ≤ hq_sn (fun j => hq_d wd i v j + hq_d wd i u j) 128 := hq_sn_le (fun j _ => hq_dT0 _ _ _ _ _)
  rw [hq_sn_mul] at h2
  omega
theorem hq_D_hi (wd : Nat → Bool) (i : Nat) {v : Nat} (hv : v < 128) : hq_D wd i v + hq_D wd i (v + 128) = 384 := by
  unfold hq_D
  rw [← hq_sn_add, hq_sn_congr (g := fun _ => 3) (fun j _ => by
    show hq_sn _ 3 + hq_sn _ 3 = 3
    rw [hq_rm_hi hv]
    exact hq_dN0 _ _ _ _), hq_sn_const]
/-! ===== words near a code word ===== -/
def hq_e (wd : Nat → Bool) (vl : Nat → Nat) (k : Nat) : Nat := hq_n (wd k ^^ hq_rm (vl (k / 384)) (k % 128))
def hq_near (wd : Nat → Bool) (vl : Nat → Nat) (c : Nat) : Prop := (∀ j, j < 4 → vl j < 256) ∧ hq_sn (hq_e wd vl) 1536 ≤ c
theorem hq_near_D {wd : Nat → Bool} {vl : Nat → Nat} {c i : Nat} (h : hq_near wd vl c) (hi : i < 4) : hq_D wd i (vl i) ≤ c := by
  refine Nat.le_trans ?_ h.2
  have hm : hq_sn (hq_e wd vl) (i * 384 + (128 + (128 + 128))) ≤ hq_sn (hq_e wd vl) 1536 := hq_sn_mono _ (by omega)
  refine Nat.le_trans ?_ hm
  rw [hq_sn_cat, hq_sn_cat, hq_sn_cat]
  have e : hq_D wd i (vl i) = hq_sn (fun k => hq_e wd vl (i * 384 + k)) 128 + (hq_sn (fun k => hq_e wd vl (i * 384 + (128 + k))) 128 + hq_sn (fun k => hq_e wd vl (i * 384 + (128 + (128 + k)))) 128) := by
    rw [← hq_sn_add, ← hq_sn_add]
    unfold hq_D
    refine hq_sn_congr (fun j hj => ?_)
    show 0 + hq_n (wd (i * 384 + 0 * 128 + j) ^^ hq_rm (vl i) j) + hq_n (wd (i * 384 + 1 * 128 + j) ^^ hq_rm (vl i) j) + hq_n (wd (i * 384 + 2 * 128 + j) ^^ hq_rm (vl i) j) = _
    have a0 : (i * 384 + j) / 384 = i ∧ (i * 384 + j) % 128 = j := by omega
    have a1 : (i * 384 + (128 + j)) / 384 = i ∧ (i * 384 + (128 + j)) % 128 = j := by omega
    have a2 : (i * 384 + (128 + (128 + j))) / 384 = i ∧ (i * 384 + (128 + (128 + j))) % 128 = j := by omega
    unfold hq_e
    rw [a0.1, a0.2, a1.1, a1.2, a2.1, a2.2, show i * 384 + 0 * 128 + j = i * 384 + j by omega, show i * 384 + 1 * 128 + j = i * 384 + (128 + j) by omega, show i * 384 + 2 * 128 + j = i * 384 + (128 + (128 + j)) by omega]
    omega
  rw [e]
  omega
theorem hq_near_0 {wd : Nat → Bool} {vl : Nat → Nat} (h : ∀ j, j < 4 → vl j < 256) (hw : ∀ k, k < 1536 → wd k = hq_rm (vl (k / 384)) (k % 128)) : hq_near wd vl 0 := by
  refine ⟨h, ?_⟩
  rw [hq_sn_congr (g := fun _ => 0) (fun k hk => by
    show hq_n (wd k ^^ hq_rm (vl (k / 384)) (k % 128)) = 0
    rw [hw k hk]
    exact (by decide : ∀ b : Bool, hq_n (b ^^ b) = 0) _), hq_sn_const]
  omega
theorem hq_flip0 : ∀ a b r : Bool, hq_n ((a ^^ b) ^^ r) ≤ hq_n (a ^^ r) + hq_n b := by decide
theorem hq_near_flip {wd wd' : Nat → Bool} {vl : Nat → Nat} {c q : Nat} (h : hq_near wd vl c) (hw : ∀ k, k < 1536 → wd' k = (wd k ^^ decide (k = q))) : hq_near wd' vl (c + 1) := by
  refine ⟨h.1, ?_⟩
  have h1 : hq_sn (hq_e wd' vl) 1536 ≤ hq_sn (fun k => hq_e wd vl k + hq_n (decide (k = q))) 1536 := hq_sn_le (fun k hk => by
    show hq_n (wd' k ^^ hq_rm (vl (k / 384)) (k % 128)) ≤ _
    rw [hw k hk]
    exact hq_flip0 _ _ _)
  rw [hq_sn_add] at h1
  have h2 := hq_sn_one q 1536
  have h3 : (if q < 1536 then 1 else 0) ≤ 1 := by split <;> omega
  have h4 := h.2
  omega
theorem hq_near_le {wd : Nat → Bool} {vl : Nat → Nat} {c d : Nat} (h : hq_near wd vl c) (hd : c ≤ d) : hq_near wd vl d := ⟨h.1, Nat.le_trans h.2 hd⟩
theorem hq_near_congr {wd wd' : Nat → Bool} {vl : Nat → Nat} {c : Nat} (h : hq_near wd vl c) (hw : ∀ k, k < 1536 → wd' k = wd k) : hq_near wd' vl c := by
  refine ⟨h.1, ?_⟩
  rw [hq_sn_congr (g := hq_e wd vl) (fun k hk => by unfold hq_e; rw [hw k hk])]
  exact h.2
/-- the other letters are far off -/
theorem hq_far {wd : Nat → Bool} {vl : Nat → Nat} {i v : Nat} (h : hq_near wd vl 40) (hi : i < 4) (hv : v < 256) (hne : v ≠ vl i) : 152 ≤ hq_D wd i v := by
  have h1 := hq_tri wd i hv (h.1 i hi) hne
  have h2 := hq_near_D h hi
  omega
/-! ===== the transform ===== -/
def hq_st (f : Nat → Int) : Nat → Int := fun k => if k < 64 then f (2 * k) + f (2 * k + 1) else f (2 * (k - 64)) - f (2 * (k - 64) + 1)
def hq_tr : Nat → (Nat → Int) → Nat → Int
  | 0, f => f
  | n + 1, f => hq_st (hq_tr n f)
def hq_sg (k j : Nat) : Int := if hq_rm k j = true then -1 else 1
def hq_S (F : Nat → Int) (t b n : Nat) : Int := hq_su (fun x => hq_sg t x * F (b + x)) n
theorem hq_tbs : ∀ n, n < 7 → ∀ t, t < 2 ^ n → t.testBit n = false ∧ ∀ i, i < 8 → (2 ^ n + t).testBit i = (decide (i = n) || t.testBit i) := by decide +kernel
theorem hq_rp1 {n t x : Nat} (hn : n < 7) (ht : t < 2 ^ n) (hx : x < 2 ^ n) : ∀ i : Nat, i ≤ 7 → hq_rp t (2 ^ n + x) i = hq_rp t x i
  | 0, _ => rfl
  | i + 1, h => by
    show (hq_rp t (2 ^ n + x) i ^^ (t.testBit i && (2 ^ n + x).testBit i)) = (hq_rp t x i ^^ (t.testBit i && x.testBit i))
    rw [hq_rp1 hn ht hx i (by omega), (hq_tbs n hn x hx).2 i (by omega)]
    by_cases e : i = n
    · subst e
      rw [(hq_tbs i hn t ht).1]
      rfl
    · rw [decide_eq_false e, Bool.false_or]
theorem hq_rp2 {n t x : Nat} (hn : n < 7) (ht : t < 2 ^ n) (hx : x < 2 ^ n) : ∀ i : Nat, i ≤ 7 → hq_rp (2 ^ n + t) x i = hq_rp t x i
  | 0, _ => by
    show (2 ^ n + t).testBit 7 = t.testBit 7
    rw [(hq_tbs n hn t ht).2 7 (by omega), decide_eq_false (by omega), Bool.false_or]
  | i + 1, h => by
    show (hq_rp (2 ^ n + t) x i ^^ ((2 ^ n + t).testBit i && x.testBit i)) = (hq_rp t x i ^^ (t.testBit i && x.testBit i))
    rw [hq_rp2 hn ht hx i (by omega), (hq_tbs n hn t ht).2 i (by omega)]
    by_cases e : i = n
    · subst e
      rw [(hq_tbs i hn x hx).1, Bool.and_false, Bool.and_false]
    · rw [decide_eq_false e, Bool.false_or]
theorem hq_rp3 {n t x : Nat} (hn : n < 7) (ht : t < 2 ^ n) (hx : x < 2 ^ n) : ∀ i : Nat, i ≤ 7 → hq_rp (2 ^ n + t) (2 ^ n + x) i = (hq_rp t x i ^^ decide (n < i))
  | 0, _ => by
    show (2 ^ n + t).testBit 7 = (t.testBit 7 ^^ decide (n < 0))
    rw [(hq_tbs n hn t ht).2 7 (by omega), decide_eq_false (by omega), Bool.false_or, decide_eq_false (by omega), Bool.xor_false]
  | i + 1, h => by
    show (hq_rp (2 ^ n + t) (2 ^ n + x) i ^^ ((2 ^ n + t).testBit i && (2 ^ n + x).testBit i)) = ((hq_rp t x i ^^ (t.testBit i && x.testBit i)) ^^ decide (n < i + 1))
    rw [hq_rp3 hn ht hx i (by omega), (hq_tbs n hn t ht).2 i (by omega), (hq_tbs n hn x hx).2 i (by omega)]
    by_cases e : i = n
    · subst e
      rw [(hq_tbs i hn t ht).1, decide_eq_false (Nat.lt_irrefl i), decide_eq_true (Nat.lt_succ_self i), decide_eq_true rfl]
      exact (by decide : ∀ a b : Bool, ((a ^^ false) ^^ ((true || false) && (true || b))) = ((a ^^ (false && b)) ^^ true)) _ _
    · rw [decide_eq_false e, Bool.false_or, Bool.false_or, show decide (n < i + 1) = decide (n < i) from decide_eq_decide.mpr (by omega)]
      exact (by decide : ∀ a b c : Bool, ((a ^^ b) ^^ c) = ((a ^^ c) ^^ b)) _ _ _
theorem hq_step {n : Nat} (hn : n < 7) (F : Nat → Int) (b : Nat) {t : Nat} (ht : t < 2 ^ n) : hq_S F t b (2 ^ n) + hq_S F t (b + 2 ^ n) (2 ^ n) = hq_S F t b (2 ^ n + 2 ^ n) ∧ hq_S F t b (2 ^ n) - hq_S F t (b + 2 ^ n) (2 ^ n) = hq_S F (2 ^ n + t) b (2 ^ n + 2 ^ n) := by
  unfold hq_S
  rw [hq_su_cat, hq_su_cat]
  constructor
  · congr 1
    refine hq_su_congr (fun x hx => ?_)
    show _ = hq_sg t (2 ^ n + x) * F (b + (2 ^ n + x))
    unfold hq_sg hq_rm
    rw [hq_rp1 hn ht hx 7 (Nat.le_refl _), Nat.add_assoc]
  · rw [Int.sub_eq_add_neg, ← hq_su_neg]
    congr 1
    · refine hq_su_congr (fun x hx => ?_)
      unfold hq_sg hq_rm
      rw [hq_rp2 hn ht hx 7 (Nat.le_refl _)]
    · refine hq_su_congr (fun x hx => ?_)
      show -(hq_sg t x * F (b + 2 ^ n + x)) = hq_sg (2 ^ n + t) (2 ^ n + x) * F (b + (2 ^ n + x))
      unfold hq_sg hq_rm
      rw [hq_rp3 hn ht hx 7 (Nat.le_refl _), decide_eq_true hn, Nat.add_assoc]
      cases hq_rp t x 7 <;> simp
theorem hq_trs0 (F g : Nat → Int) (h : ∀ k, k < 128 → g k = hq_S F (k / 128) (k % 128 * 1) 1) : ∀ k, k < 128 → hq_st g k = hq_S F (k / 64) (k % 64 * 2) 2 := by
  intro k hk
  unfold hq_st
  by_cases h6 : k < 64
  · rw [if_pos h6, h (2 * k) (by omega), h (2 * k + 1) (by omega)]
    rw [show 2 * k / 128 = k / 64 by omega, show (2 * k + 1) / 128 = k / 64 by omega, show 2 * k % 128 * 1 = k % 64 * 2 by omega, show (2 * k + 1) % 128 * 1 = k % 64 * 2 + 1 by omega]
    exact (hq_step (n := 0) (by decide) F (k % 64 * 2) (t := k / 64) (by show k / 64 < 1; omega)).1
  · obtain ⟨k', rfl⟩ : ∃ k', k = k' + 64 := ⟨k - 64, by omega⟩
    rw [if_neg h6, Nat.add_sub_cancel, h (2 * k') (by omega), h (2 * k' + 1) (by omega)]
    rw [show 2 * k' / 128 = k' / 64 by omega, show (2 * k' + 1) / 128 = k' / 64 by omega, show 2 * k' % 128 * 1 = (k' + 64) % 64 * 2 by omega, show (2 * k' + 1) % 128 * 1 = (k' + 64) % 64 * 2 + 1 by omega, show (k' + 64) / 64 = 1 + k' / 64 by omega]
    exact (hq_step (n := 0) (by decide) F ((k' + 64) % 64 * 2) (t := k' / 64) (by show k' / 64 < 1; omega)).2
theorem hq_trs1 (F g : Nat → Int) (h : ∀ k, k < 128 → g k = hq_S F (k / 64) (k % 64 * 2) 2) : ∀ k, k < 128 → hq_st g k = hq_S F (k / 32) (k % 32 * 4) 4 := by
  intro k hk
  unfold hq_st
  by_cases h6 : k < 64
  · rw [if_pos h6, h (2 * k) (by omega), h (2 * k + 1) (by omega)]
    rw [show 2 * k / 64 = k / 32 by omega, show (2 * k + 1) / 64 = k / 32 by omega, show 2 * k % 64 * 2 = k % 32 * 4 by omega, show (2 * k + 1) % 64 * 2 = k % 32 * 4 + 2 by omega]
    exact (hq_step (n := 1) (by decide) F (k % 32 * 4) (t := k / 32) (by show k / 32 < 2; omega)).1
  · obtain ⟨k', rfl⟩ : ∃ k', k = k' + 64 := ⟨k - 64, by omega⟩
    rw [if_neg h6, Nat.add_sub_cancel, h (2 * k') (by omega), h (2 * k' + 1) (by omega)]
    rw [show 2 * k' / 64 = k' / 32 by omega, show (2 * k' + 1) / 64 = k' / 32 by omega, show 2 * k' % 64 * 2 = (k' + 64) % 32 * 4 by omega, show (2 * k' + 1) % 64 * 2 = (k' + 64) % 32 * 4 + 2 by omega, show (k' + 64) / 32 = 2 + k' / 32 by omega]
    exact (hq_step (n := 1) (by decide) F ((k' + 64) % 32 * 4) (t := k' / 32) (by show k' / 32 < 2; omega)).2
theorem hq_trs2 (F g : Nat → Int) (h : ∀ k, k < 128 → g k = hq_S F (k / 32) (k % 32 * 4) 4) : ∀ k, k < 128 → hq_st g k = hq_S F (k / 16) (k % 16 * 8) 8 := by
  intro k hk
  unfold hq_st
  by_cases h6 : k < 64
  · rw [if_pos h6, h (2 * k) (by omega), h (2 * k + 1) (by omega)]
    rw [show 2 * k / 32 = k / 16 by omega, show (2 * k + 1) / 32 = k / 16 by omega, show 2 * k % 32 * 4 = k % 16 * 8 by omega, show (2 * k + 1) % 32 * 4 = k % 16 * 8 + 4 by omega]
    exact (hq_step (n := 2) (by decide) F (k % 16 * 8) (t := k / 16) (by show k / 16 < 4; omega)).1
  · obtain ⟨k', rfl⟩ : ∃ k', k = k' + 64 := ⟨k - 64, by omega⟩
    rw [if_neg h6, Nat.add_sub_cancel, h (2 * k') (by omega), h (2 * k' + 1) (by omega)]
    rw [show 2 * k' / 32 = k' / 16 by omega, show (2 * k' + 1) / 32 = k' / 16 by omega, show 2 * k' % 32 * 4 = (k' + 64) % 16 * 8 by omega, show (2 * k' + 1) % 32 * 4 = (k' + 64) % 16 * 8 + 4 by omega, show (k' + 64) / 16 = 4 + k' / 16 by omega]
    exact (hq_step (n := 2) (by decide) F ((k' + 64) % 16 * 8) (t := k' / 16) (by show k' / 16 < 4; omega)).2
theorem hq_trs3 (F g : Nat → Int) (h : ∀ k, k < 128 → g k = hq_S F (k / 16) (k % 16 * 8) 8) : ∀ k, k < 128 → hq_st g k = hq_S F (k / 8) (k % 8 * 16) 16 := by
  intro k hk
  unfold hq_st
  by_cases h6 : k < 64
  · rw [if_pos h6, h (2 * k) (by omega), h (2 * k + 1) (by omega)]
    rw [show 2 * k / 16 = k / 8 by omega, show (2 * k + 1) / 16 = k / 8 by omega, show 2 * k % 16 * 8 = k % 8 * 16 by omega, show (2 * k + 1) % 16 * 8 = k % 8 * 16 + 8 by omega]
    exact (hq_step (n := 3) (by decide) F (k % 8 * 16) (t := k / 8) (by show k / 8 < 8; omega)).1
  · obtain ⟨k', rfl⟩ : ∃ k', k = k' + 64 := ⟨k - 64, by omega⟩
    rw [if_neg h6, Nat.add_sub_cancel, h (2 * k') (by omega), h (2 * k' + 1) (by omega)]
    rw [show 2 * k' / 16 = k' / 8 by omega, show (2 * k' + 1) / 16 = k' / 8 by omega, show 2 * k' % 16 * 8 = (k' + 64) % 8 * 16 by omega, show (2 * k' + 1) % 16 * 8 = (k' + 64) % 8 * 16 + 8 by omega, show (k' + 64) / 8 = 8 + k' / 8 by omega]
    exact (hq_step (n := 3) (by decide) F ((k' + 64) % 8 * 16) (t := k' / 8) (by show k' / 8 < 8; omega)).2
theorem hq_trs4 (F g : Nat → Int) (h : ∀ k, k < 128 → g k = hq_S F (k / 8) (k % 8 * 16) 16) : ∀ k, k < 128 → hq_st g k = hq_S F (k / 4) (k % 4 * 32) 32 := by
  intro k hk
  unfold hq_st
  by_cases h6 : k < 64
  · rw [if_pos h6, h (2 * k) (by omega), h (2 * k + 1) (by omega)]
    rw [show 2 * k / 8 = k / 4 by omega, show (2 * k + 1) / 8 = k / 4 by omega, show 2 * k % 8 * 16 = k % 4 * 32 by omega, show (2 * k + 1) % 8 * 16 = k % 4 * 32 + 16 by omega]
    exact (hq_step (n := 4) (by decide) F (k % 4 * 32) (t := k / 4) (by show k / 4 < 16; omega)).1
  · obtain ⟨k', rfl⟩ : ∃ k', k = k' + 64 := ⟨k - 64, by omega⟩
    rw [if_neg h6, Nat.add_sub_cancel, h (2 * k') (by omega), h (2 * k' + 1) (by omega)]
    rw [show 2 * k' / 8 = k' / 4 by omega, show (2 * k' + 1) / 8 = k' / 4 by omega, show 2 * k' % 8 * 16 = (k' + 64) % 4 * 32 by omega, show (2 * k' + 1) % 8 * 16 = (k' + 64) % 4 * 32 + 16 by omega, show (k' + 64) / 4 = 16 + k' / 4 by omega]
    exact (hq_step (n := 4) (by decide) F ((k' + 64) % 4 * 32) (t := k' / 4) (by show k' / 4 < 16; omega)).2
theorem hq_trs5 (F g : Nat → Int) (h : ∀ k, k < 128 → g k = hq_S F (k / 4) (k % 4 * 32) 32) : ∀ k, k < 128 → hq_st g k = hq_S F (k / 2) (k % 2 * 64) 64 := by
  intro k hk
  unfold hq_st
  by_cases h6 : k < 64
  · rw [if_pos h6, h (2 * k) (by omega), h (2 * k + 1) (by omega)]
    rw [show 2 * k / 4 = k / 2 by omega, show (2 * k + 1) / 4 = k / 2 by omega, show 2 * k % 4 * 32 = k % 2 * 64 by omega, show (2 * k + 1) % 4 * 32 = k % 2 * 64 + 32 by omega]
    exact (hq_step (n := 5) (by decide) F (k % 2 * 64) (t := k / 2) (by show k / 2 < 32; omega)).1
  · obtain ⟨k', rfl⟩ : ∃ k', k = k' + 64 := ⟨k - 64, by omega⟩
    rw [if_neg h6, Nat.add_sub_cancel, h (2 * k') (by omega), h (2 * k' + 1) (by omega)]
    rw [show 2 * k' / 4 = k' / 2 by omega, show (2 * k' + 1) / 4 = k' / 2 by omega, show 2 * k' % 4 * 32 = (k' + 64) % 2 * 64 by omega, show (2 * k' + 1) % 4 * 32 = (k' + 64) % 2 * 64 + 32 by omega, show (k' + 64) / 2 = 32 + k' / 2 by omega]
    exact (hq_step (n := 5) (by decide) F ((k' + 64) % 2 * 64) (t := k' / 2) (by show k' / 2 < 32; omega)).2
theorem hq_trs6 (F g : Nat → Int) (h : ∀ k, k < 128 → g k = hq_S F (k / 2) (k % 2 * 64) 64) : ∀ k, k < 128 → hq_st g k = hq_S F (k / 1) (k % 1 * 128) 128 := by
  intro k hk
  unfold hq_st
  by_cases h6 : k < 64
  · rw [if_pos h6, h (2 * k) (by omega), h (2 * k + 1) (by omega)]
    rw [show 2 * k / 2 = k / 1 by omega, show (2 * k + 1) / 2 = k / 1 by omega, show 2 * k % 2 * 64 = k % 1 * 128 by omega, show (2 * k + 1) % 2 * 64 = k % 1 * 128 + 64 by omega]
    exact (hq_step (n := 6) (by decide) F (k % 1 * 128) (t := k / 1) (by show k / 1 < 64; omega)).1
  · obtain ⟨k', rfl⟩ : ∃ k', k = k' + 64 := ⟨k - 64, by omega⟩
    rw [if_neg h6, Nat.add_sub_cancel, h (2 * k') (by omega), h (2 * k' + 1) (by omega)]
    rw [show 2 * k' / 2 = k' / 1 by omega, show (2 * k' + 1) / 2 = k' / 1 by omega, show 2 * k' % 2 * 64 = (k' + 64) % 1 * 128 by omega, show (2 * k' + 1) % 2 * 64 = (k' + 64) % 1 * 128 + 64 by omega, show (k' + 64) / 1 = 64 + k' / 1 by omega]
    exact (hq_step (n := 6) (by decide) F ((k' + 64) % 1 * 128) (t := k' / 1) (by show k' / 1 < 64; omega)).2
theorem hq_tr7 (F : Nat → Int) : ∀ k, k < 128 → hq_tr 7 F k = hq_S F k 0 128 := by
  have h0 : ∀ k, k < 128 → hq_tr 0 F k = hq_S F (k / 128) (k % 128 * 1) 1 := by
    intro k hk
    rw [show k / 128 = 0 by omega, show k % 128 * 1 = k by omega]
    show F k = 0 + hq_sg 0 0 * F (k + 0)
    rw [show hq_sg 0 0 = 1 by decide]
    simp
  have h := hq_trs6 F _ (hq_trs5 F _ (hq_trs4 F _ (hq_trs3 F _ (hq_trs2 F _ (hq_trs1 F _ (hq_trs0 F _ h0))))))
  intro k hk
  have e := h k hk
  rw [show k / 1 = k by omega, show k % 1 * 128 = 0 by omega] at e
  exact e
theorem hq_st_congr {f g : Nat → Int} (h : ∀ k, k < 128 → f k = g k) : ∀ k, k < 128 → hq_st f k = hq_st g k := by
  intro k hk
  unfold hq_st
  split
  · rw [h (2 * k) (by omega), h (2 * k + 1) (by omega)]
  · rw [h (2 * (k - 64)) (by omega), h (2 * (k - 64) + 1) (by omega)]
/-- the transform of a block, told by its distance from the letters -/
theorem hq_trD (wd : Nat → Bool) (i : Nat) {k : Nat} (hk : k < 128) : hq_tr 7 (fun j => (hq_F wd i j : Int)) k - (if k = 0 then 192 else 0) = (hq_D wd i k : Int) - 192 := by
  rw [hq_tr7 _ k hk]
  unfold hq_S
  rw [hq_su_sn (d := hq_d wd i k) (w := fun j => hq_n (hq_rm k j)) (c := 3) (fun j _ => by
    show hq_sg k j * ((hq_F wd i (0 + j) : Nat) : Int) = _
    rw [Nat.zero_add]
    exact hq_dF0 _ _ _ _)]
  show ((hq_D wd i k : Nat) : Int) - 3 * ((hq_wt k : Nat) : Int) - _ = _
  by_cases h : k = 0
  · subst h
    rw [if_pos rfl, hq_wt_0]
    omega
  · rw [if_neg h, hq_wt_lo k hk (by omega)]
    omega
theorem hq_peak {wd : Nat → Bool} {vl : Nat → Nat} {i : Nat} (h : hq_near wd vl 40) (hi : i < 4) {T : Nat → Int} (hT : ∀ k, k < 128 → T k = (hq_D wd i k : Int) - 192) :
    (∀ k, k < 128 → (T k).natAbs ≤ 192) ∧ ∃ k0, k0 < 128 ∧ (∀ k, k < 128 → k ≠ k0 → (T k).natAbs < (T k0).natAbs) ∧ vl i = k0 + (if 0 < T k0 then 128 else 0) := by
  have hb : ∀ k, k < 128 → hq_D wd i k ≤ 384 := fun k hk => by
    have := hq_D_hi wd i hk
    omega
  refine ⟨fun k hk => ?_, ?_⟩
  · have := hb k hk
    rw [hT k hk]
    omega
  have hv := h.1 i hi
  have hn := hq_near_D h hi
  have other : ∀ k, k < 128 → k ≠ vl i → k + 128 ≠ vl i → 152 ≤ hq_D wd i k ∧ hq_D wd i k ≤ 232 := fun k hk h1 h2 => by
    have a := hq_far h hi (v := k) (by omega) h1
    have b := hq_far h hi (v := k + 128) (by omega) h2
    have := hq_D_hi wd i hk
    omega
  by_cases h8 : vl i < 128
  · refine ⟨vl i, h8, fun k hk hne => ?_, ?_⟩
    · have a := other k hk hne (by omega)
      rw [hT k hk, hT _ h8]
      omega
    · rw [hT _ h8, if_neg (by omega)]
      rfl
  · obtain ⟨u, hu⟩ : ∃ u, vl i = u + 128 := ⟨vl i - 128, by omega⟩
    have hD := hq_D_hi wd i (v := u) (by omega)
    rw [← hu] at hD
    refine ⟨u, by omega, fun k hk hne => ?_, ?_⟩
    · have a := other k hk (by omega) (by omega)
      rw [hT k hk, hT u (by omega)]
      omega
    · rw [hT u (by omega), if_pos (by omega)]
      exact hu
end
section
/-! PURE: bits of the cells -/
set_option maxRecDepth 100000
theorem bp_b (x : Int32) : x.toInt8.toInt32 &&& 255 = x &&& 255 := by
  apply Int32.toBitVec_inj.mp
  rw [Int32.toBitVec_and, Int32.toBitVec_and, Int8.toBitVec_toInt32, Int32.toBitVec_toInt8]
  apply BitVec.eq_of_getLsbD_eq
  intro i hi
  rw [BitVec.getLsbD_and, BitVec.getLsbD_and]
  have hm : ∀ i < 32, 8 ≤ i → (255 : Int32).toBitVec.getLsbD i = false := by decide
  rcases Nat.lt_or_ge i 8 with z | z
  · rw [BitVec.getLsbD_signExtend, BitVec.getLsbD_signExtend, if_pos z, if_pos hi]
    simp only [z, hi, decide_true, Bool.true_and]
  · rw [hm i hi z]; simp
def hq_by (v : Nat) : Int32 := (nI v).toInt8.toInt32
def hq_iz (z : Int) : Int32 := Int32.ofInt z
/-- bit k of a row of longs -/
def hq_bl (fw : Nat → Int64) (k : Nat) : Bool := (fw (k / 64)).toBitVec.getLsbD (k % 64)
/-- the place that a number names -/
def hq_sp (x : Int32) : Nat := x.toBitVec.toNat % 2147483648 % 1536
def hq_pk (vl : Nat → Nat) : Nat → Int32
  | 0 => nI 0
  | i + 1 => (hq_pk vl i <<< (nI 8 &&& 31)) ||| nI (vl i)
theorem hq_sp_lt (x : Int32) : hq_sp x < 1536 := Nat.mod_lt _ (by decide)
theorem hq_bn (v i : Nat) : bt (nI v) i = (decide (i < 32) && v.testBit i) := BitVec.getLsbD_ofNat 32 v i
theorem hq_by_bt {v i : Nat} (hi : i < 8) : bt (hq_by v) i = v.testBit i := by
  have e : bt (hq_by v &&& 255) i = bt (nI v &&& 255) i := by unfold hq_by; rw [bp_b]
  rw [b_and, b_and, b_255, decide_eq_true hi, Bool.and_true, Bool.and_true, hq_bn, decide_eq_true (by omega), Bool.true_and] at e
  exact e
theorem hq_by_and {v : Nat} (hv : v < 256) : hq_by v &&& nI 255 = nI v := sc_k8 v hv
theorem hq_by_nar (v : Nat) : vp_nar .byte (hq_by v) = hq_by v := pk_vb _
theorem hq_by_of (x : Int32) : x.toInt8.toInt32 = hq_by (x.toBitVec.toNat % 256) := by
  unfold hq_by
  congr 1
  apply Int8.toBitVec_inj.1
  show x.toBitVec.signExtend 8 = (BitVec.ofNat 32 (x.toBitVec.toNat % 256)).signExtend 8
  apply BitVec.eq_of_getLsbD_eq
  intro i hi
  rw [BitVec.getLsbD_signExtend, BitVec.getLsbD_signExtend, if_pos (by omega), if_pos (by omega), BitVec.getLsbD_ofNat, show (256 : Nat) = 2 ^ 8 from rfl, Nat.testBit_mod_two_pow, BitVec.testBit_toNat, decide_eq_true hi, decide_eq_true (show i < 32 by omega)]
  simp
theorem hq_and255 (x : Int32) : x &&& nI 255 = nI (x.toBitVec.toNat % 256) := pk_and x 8 (by decide)
theorem hq_and3 (x : Int32) : x &&& nI 3 = nI (x.toBitVec.toNat % 4) := pk_and x 2 (by decide)
theorem hq_i_bt : ∀ (b : Bool) (i : Nat), i ≠ 0 → bt (hq_i b) i = false := by
  intro b i h
  cases b
  · exact b_0 i
  · rcases Nat.lt_or_ge i 32 with z | z
    · exact (by decide +kernel : ∀ i, i < 32 → i ≠ 0 → bt (hq_i true) i = false) i z h
    · exact b_big z
theorem hq_and1 (x : Int32) : x &&& nI 1 = hq_i (bt x 0) := by
  apply b_ext
  intro i hi
  rw [b_and]
  by_cases h : i = 0
  · subst h
    generalize bt x 0 = b
    cases b <;> decide
  · rw [hq_i_bt _ _ h, show bt (nI 1) i = false from hq_i_bt true i h, Bool.and_false]
theorem hq_i_n (b : Bool) : hq_i b = nI (hq_n b) := by cases b <;> rfl
def hq_mk (x : Int32) : Int32 := -(x &&& nI 1)
theorem hq_mk_bt (x : Int32) {i : Nat} (hi : i < 32) : bt (hq_mk x) i = bt x 0 := by
  unfold hq_mk
  rw [hq_and1]
  cases bt x 0
  · rw [show -(hq_i false) = 0 by decide]
    exact b_0 i
  · rw [show -(hq_i true) = -1 by decide]
    exact b_m1 i hi
theorem hq_c0 : ∀ i, i < 32 → bt (-1431655766) i = i.testBit 0 := by decide +kernel
theorem hq_c1 : ∀ i, i < 32 → bt (-858993460) i = i.testBit 1 := by decide +kernel
theorem hq_c2 : ∀ i, i < 32 → bt (-252645136) i = i.testBit 2 := by decide +kernel
theorem hq_c3 : ∀ i, i < 32 → bt (-16711936) i = i.testBit 3 := by decide +kernel
theorem hq_c4 : ∀ i, i < 32 → bt (-65536) i = i.testBit 4 := by decide +kernel
theorem hq_sh {v : Nat} (n : Nat) (hn : n < 8) : bt (hq_by v >>> (nI n &&& 31)) 0 = v.testBit n := by
  rw [b_sshr n (by omega) _ (by omega), if_pos (by omega), Nat.add_zero, hq_by_bt hn]
/-- the first word of a letter, as the code computes it -/
def hq_w0 (m : Int32) : Int32 := ((((hq_mk (m >>> (nI 7 &&& 31)) ^^^ (hq_mk m &&& -1431655766)) ^^^ (hq_mk (m >>> (nI 1 &&& 31)) &&& -858993460)) ^^^ (hq_mk (m >>> (nI 2 &&& 31)) &&& -252645136)) ^^^ (hq_mk (m >>> (nI 3 &&& 31)) &&& -16711936)) ^^^ (hq_mk (m >>> (nI 4 &&& 31)) &&& -65536)
theorem hq_w0_bt {v i : Nat} (hi : i < 32) : bt (hq_w0 (hq_by v)) i = hq_rp v i 5 := by
  unfold hq_w0
  rw [b_xor, b_xor, b_xor, b_xor, b_xor, b_and, b_and, b_and, b_and, b_and, hq_mk_bt _ hi, hq_mk_bt _ hi, hq_mk_bt _ hi, hq_mk_bt _ hi, hq_mk_bt _ hi, hq_mk_bt _ hi, hq_c0 i hi, hq_c1 i hi, hq_c2 i hi, hq_c3 i hi, hq_c4 i hi, hq_sh 7 (by omega), hq_sh 1 (by omega), hq_sh 2 (by omega), hq_sh 3 (by omega), hq_sh 4 (by omega), hq_by_bt (show 0 < 8 by omega)]
  rfl
theorem hq_rp_congr (v : Nat) {j j' : Nat} : ∀ i : Nat, (∀ b, b < i → j'.testBit b = j.testBit b) → hq_rp v j' i = hq_rp v j i
  | 0, _ => rfl
  | i + 1, h => by
    show (hq_rp v j' i ^^ (v.testBit i && j'.testBit i)) = (hq_rp v j i ^^ (v.testBit i && j.testBit i))
    rw [hq_rp_congr v i (fun b hb => h b (by omega)), h i (by omega)]
theorem hq_jb : ∀ j, j < 128 → (∀ b, b < 5 → (j % 32).testBit b = j.testBit b) ∧ j.testBit 5 = decide (j / 32 = 1 ∨ j / 32 = 3) ∧ j.testBit 6 = decide (j / 32 = 2 ∨ j / 32 = 3) := by decide +kernel
/-- the four words of a letter -/
def hq_w4 (m : Int32) : Nat → Int32
  | 0 => hq_w0 m
  | 1 => hq_w0 m ^^^ hq_mk (m >>> (nI 5 &&& 31))
  | 2 => ((hq_w0 m ^^^ hq_mk (m >>> (nI 5 &&& 31))) ^^^ hq_mk (m >>> (nI 6 &&& 31))) ^^^ hq_mk (m >>> (nI 5 &&& 31))
  | _ => (hq_w0 m ^^^ hq_mk (m >>> (nI 5 &&& 31))) ^^^ hq_mk (m >>> (nI 6 &&& 31))
theorem hq_enc_bt {v j : Nat} (hj : j < 128) : bt (hq_w4 (hq_by v) (j / 32)) (j % 32) = hq_rm v j := by
  obtain ⟨h1, h5, h6⟩ := hq_jb j hj
  have hi : j % 32 < 32 := by omega
  have e0 : bt (hq_w0 (hq_by v)) (j % 32) = hq_rp v j 5 := by rw [hq_w0_bt hi]; exact hq_rp_congr v 5 h1
  have er : hq_rm v j = ((hq_rp v j 5 ^^ (v.testBit 5 && j.testBit 5)) ^^ (v.testBit 6 && j.testBit 6)) := rfl
  rw [er, h5, h6]
  have hq : j / 32 = 0 ∨ j / 32 = 1 ∨ j / 32 = 2 ∨ j / 32 = 3 := by omega
  rcases hq with q | q | q | q
  · rw [q]
    show bt (hq_w0 (hq_by v)) (j % 32) = _
    rw [e0]
    simp
  · rw [q]
    show bt (hq_w0 (hq_by v) ^^^ hq_mk (hq_by v >>> (nI 5 &&& 31))) (j % 32) = _
    rw [b_xor, e0, hq_mk_bt _ hi, hq_sh 5 (by omega)]
    simp
  · rw [q]
    show bt (((hq_w0 (hq_by v) ^^^ hq_mk (hq_by v >>> (nI 5 &&& 31))) ^^^ hq_mk (hq_by v >>> (nI 6 &&& 31))) ^^^ hq_mk (hq_by v >>> (nI 5 &&& 31))) (j % 32) = _
    rw [b_xor, b_xor, b_xor, e0, hq_mk_bt _ hi, hq_mk_bt _ hi, hq_sh 5 (by omega), hq_sh 6 (by omega)]
    generalize v.testBit 5 = a
    generalize v.testBit 6 = b
    generalize hq_rp v j 5 = c
    cases a <;> cases b <;> cases c <;> rfl
  · rw [q]
    show bt ((hq_w0 (hq_by v) ^^^ hq_mk (hq_by v >>> (nI 5 &&& 31))) ^^^ hq_mk (hq_by v >>> (nI 6 &&& 31))) (j % 32) = _
    rw [b_xor, b_xor, e0, hq_mk_bt _ hi, hq_mk_bt _ hi, hq_sh 5 (by omega), hq_sh 6 (by omega)]
    simp
theorem hq_w4_upd (m : Int32) (f : Nat → Int32) : ∀ q, q < 4 → upd (upd (upd (upd f 0 (hq_w4 m 0)) 1 (hq_w4 m 1)) 3 (hq_w4 m 3)) 2 (hq_w4 m 2) q = hq_w4 m q := by
  intro q hq
  have h4 : q = 0 ∨ q = 1 ∨ q = 2 ∨ q = 3 := by omega
  rcases h4 with e | e | e | e <;> subst e <;> rfl
/-- two words in a long -/
def hq_lo (a b : Int32) : Int64 := (a.toInt64 &&& 4294967295) ||| (b.toInt64 <<< ((nI 32).toInt64 &&& 63))
theorem hq_lo_bt (a b : Int32) {k : Nat} (hk : k < 64) : (hq_lo a b).toBitVec.getLsbD k = if k < 32 then bt a k else bt b (k - 32) := by
  unfold hq_lo
  rw [Int64.toBitVec_or, BitVec.getLsbD_or, Int64.toBitVec_and, BitVec.getLsbD_and, Int32.toBitVec_toInt64, BitVec.getLsbD_signExtend, Int64.toBitVec_shiftLeft]
  show (_ || (b.toInt64.toBitVec <<< (((nI 32).toInt64 &&& 63).toBitVec.smod 64).toNat).getLsbD k) = _
  rw [show (((nI 32).toInt64 &&& 63).toBitVec.smod 64).toNat = 32 by decide, BitVec.getLsbD_shiftLeft, Int32.toBitVec_toInt64, BitVec.getLsbD_signExtend, (by decide +kernel : ∀ k, k < 64 → (4294967295 : Int64).toBitVec.getLsbD k = decide (k < 32)) k hk]
  by_cases h : k < 32
  · simp [h, hk, bt]
  · simp [h, hk, bt, show k - 32 < 32 by omega, show k - 32 < 64 by omega]
theorem hq_l2i (x : Int64) {i : Nat} (hi : i < 32) : bt x.toInt32 i = x.toBitVec.getLsbD i := by
  show (x.toBitVec.signExtend 32).getLsbD i = _
  rw [BitVec.getLsbD_signExtend, decide_eq_true hi, if_pos (by omega), Bool.true_and]
theorem hq_l2h (x : Int64) {i : Nat} (hi : i < 32) : bt (x >>> ((nI 32).toInt64 &&& 63)).toInt32 i = x.toBitVec.getLsbD (32 + i) := by
  rw [hq_l2i _ hi, Int64.toBitVec_shiftRight]
  show (x.toBitVec.sshiftRight (((nI 32).toInt64 &&& 63).toBitVec.smod 64).toNat).getLsbD i = _
  rw [show (((nI 32).toInt64 &&& 63).toBitVec.smod 64).toNat = 32 by decide, BitVec.getLsbD_sshiftRight, if_pos (by omega), decide_eq_false (by omega)]
  rfl
theorem hq_shn : ∀ r, r < 64 → (((nI r).toInt64 &&& 63).toBitVec.smod 64).toNat = r := by decide +kernel
theorem hq_shu : ∀ r, r < 64 → (((nI r).toInt64.toUInt64 &&& Int64.toUInt64 63).toBitVec % 64).toNat = r := by decide +kernel
theorem hq_flipw (x : Int64) {r i : Nat} (hr : r < 64) (hi : i < 64) : (x ^^^ ((1 : Int64) <<< ((nI r).toInt64 &&& 63))).toBitVec.getLsbD i = (x.toBitVec.getLsbD i ^^ decide (i = r)) := by
  rw [Int64.toBitVec_xor, BitVec.getLsbD_xor, Int64.toBitVec_shiftLeft]
  congr 1
  show ((1#64) <<< (((nI r).toInt64 &&& 63).toBitVec.smod 64).toNat).getLsbD i = _
  rw [hq_shn r hr, BitVec.getLsbD_shiftLeft, BitVec.getLsbD_one, decide_eq_true hi]
  rcases Nat.lt_trichotomy i r with h | h | h
  · simp [h, Nat.ne_of_lt h]
  · simp [h]
  · simp [show ¬ i < r by omega, show ¬ i = r by omega, show ¬ i - r = 0 by omega]
theorem hq_bitw (x : Int64) {r : Nat} (hr : r < 64) : ((x.toUInt64 >>> ((nI r).toInt64.toUInt64 &&& Int64.toUInt64 63)).toInt64).toInt32 &&& nI 1 = hq_i (x.toBitVec.getLsbD r) := by
  rw [hq_and1, hq_l2i _ (by omega)]
  congr 1
  show (x.toUInt64 >>> ((nI r).toInt64.toUInt64 &&& Int64.toUInt64 63)).toBitVec.getLsbD 0 = _
  rw [UInt64.toBitVec_shiftRight]
  show (x.toBitVec >>> (((nI r).toInt64.toUInt64 &&& Int64.toUInt64 63).toBitVec % 64).toNat).getLsbD 0 = _
  rw [hq_shu r hr, BitVec.getLsbD_ushiftRight, Nat.add_zero]
theorem hq_spot (x : Int32) : (x &&& 2147483647) - (x &&& 2147483647) / nI 1536 * nI 1536 = nI (hq_sp x) := by
  rw [pk_and x 31 (m := 2147483647) (by decide)]
  exact pk_rem (Nat.mod_lt _ (by decide)) (by decide) (by decide)
theorem hq_k6 {k : Nat} (h : k < 1536) : nI k >>> (nI 6 &&& 31) = nI (k / 64) := pk_shrN (by omega) _ 6 (by decide)
theorem hq_k63 {k : Nat} (h : k < 1536) : nI k &&& nI 63 = nI (k % 64) := pk_andN (by omega) 6 (by decide)
theorem hq_shr1 (t : Int32) {j : Nat} (hj : j < 32) : (t >>> (nI j &&& 31)) &&& nI 1 = nI (hq_n (bt t j)) := by
  rw [hq_and1, b_sshr j hj _ (by omega), if_pos (by omega), Nat.add_zero, hq_i_n]
theorem hq_vs1 (v : Nat) {i : Nat} (hi : i < 32) : (nI v >>> (nI i &&& 31)) &&& nI 1 = hq_i (v.testBit i) := by
  rw [hq_shr1 _ hi, hq_bn, decide_eq_true hi, Bool.true_and, hq_i_n]
theorem hq_absP (t : Int32) : ((-1) &&& t) ||| (((-1) ^^^ (-1)) &&& (-t)) = t := by
  apply b_ext
  intro i hi
  rw [b_or, b_and, b_and, b_xor, b_m1 i hi]
  simp
theorem hq_absN (t : Int32) : (nI 0 &&& t) ||| ((nI 0 ^^^ (-1)) &&& (-t)) = -t := by
  apply b_ext
  intro i hi
  rw [b_or, b_and, b_and, b_xor, b_m1 i hi, show bt (nI 0) i = false from b_0 i]
  simp
theorem hq_iz_n (n : Nat) : hq_iz (n : Int) = nI n := rfl
theorem hq_iz_t {z : Int} (h : z.natAbs < 2147483648) : (hq_iz z).toInt = z := Int32.toInt_ofInt_of_le (by omega) (by omega)
theorem hq_iz_neg (z : Int) : -(hq_iz z) = hq_iz (-z) := (Int32.ofInt_neg z).symm
theorem hq_iz_add (a b : Int) : hq_iz a + hq_iz b = hq_iz (a + b) := (Int32.ofInt_add a b).symm
theorem hq_iz_sub (a b : Int) : hq_iz a - hq_iz b = hq_iz (a - b) := (Int32.ofInt_sub a b).symm
theorem hq_or128 : ∀ k, k < 128 → nI k ||| nI (128 * 1) = nI (k + 128) ∧ nI k ||| nI (128 * 0) = nI k := by decide +kernel
/-- one round of the transform, on ints -/
def hq_hs (f : Nat → Int32) (k : Nat) : Int32 := if k < 64 then f (2 * k) + f (2 * k + 1) else f (2 * (k - 64)) - f (2 * (k - 64) + 1)
theorem hq_hs_st {f : Nat → Int32} {F : Nat → Int} (h : ∀ k, k < 128 → f k = hq_iz (F k)) : ∀ k, k < 128 → hq_hs f k = hq_iz (hq_st F k) := by
  intro k hk
  unfold hq_hs hq_st
  by_cases h6 : k < 64
  · rw [if_pos h6, if_pos h6, h (2 * k) (by omega), h (2 * k + 1) (by omega), hq_iz_add]
  · rw [if_neg h6, if_neg h6, h (2 * (k - 64)) (by omega), h (2 * (k - 64) + 1) (by omega), hq_iz_sub]
/-- the number of words, of the first n from place b of a row of ints on, that hold a bit at place x -/
def hq_cn (g : Nat → Int32) (b x n : Nat) : Nat := hq_sn (fun c => hq_n (bt (g (b + c * 4 + x / 32)) (x % 32))) n
theorem hq_zi : ∀ b : Bool, narrow .boolean (.int (hq_i b)) = .int (hq_i b) := by decide
theorem hq_zn : ∀ b : Bool, vp_nar .boolean (hq_i b) = hq_i b := by decide
end
section
/-! CONTRACTS: Utils.fromLongArrayToByte32Array, ReedMuller.Bit0Mask, ReedMuller.encodeSub -/
set_option maxRecDepth 100000
theorem hq_ut_step {g : Nat → Int32} {fw : Nat → Int64} {i : Nat} (h : ∀ k, k < 64 * i → bt (g (k / 32)) (k % 32) = hq_bl fw k) : ∀ k, k < 64 * (i + 1) → bt (upd (upd g (2 * i) (fw i).toInt32) (2 * i + 1) (fw i >>> ((nI 32).toInt64 &&& 63)).toInt32 (k / 32)) (k % 32) = hq_bl fw k := by
  intro k hk
  have hm : k % 32 < 32 := Nat.mod_lt _ (by decide)
  unfold upd
  by_cases h1 : k / 32 = 2 * i + 1
  · rw [if_pos h1, hq_l2h _ hm]
    unfold hq_bl
    rw [show k / 64 = i by omega, show k % 64 = 32 + k % 32 by omega]
  · rw [if_neg h1]
    by_cases h2 : k / 32 = 2 * i
    · rw [if_pos h2, hq_l2i _ hm]
      unfold hq_bl
      rw [show k / 64 = i by omega, show k % 64 = k % 32 by omega]
    · rw [if_neg h2]
      exact h k (by omega)
set_option maxHeartbeats 4000000 in
set_option maxRecDepth 100000 in
theorem hq_ut_loop {p : Program} {l : Launch} {e : Env} {R : Room} {s : State} {m : MethodId} {args : Array Value} {below : List Frame} {meth : Method} {c : Code} {cells slots : Nat} {Q : State → Prop} {D : va_G} {A : Nat → Prop} {H0 : Heap} {q w : Nat} {dI dL : ClassId} {fw : Nat → Int64} (hx : p.tables.exec = Jvm.exec) (hb : c.code = cX3_fromLongArrayToByte32Array)
    (ex : ∀ g : Nat → Int32, (∀ k, k < 64 * 24 → bt (g (k / 32)) (k % 32) = hq_bl fw k) → hq_At p l e R s m args below meth c cells slots Q D A H0 3 [(dI, .int), (dL, .long)] [(q, .inl (dI, 48, .inl g)), (w, .inl (dL, 24, .inr (.inl fw)))] [(2, .int (nI 24)), (0, .ref q), (1, .ref w)] 37) :
    ∀ (n i : Nat), i + n = 24 → ∀ g : Nat → Int32, (∀ k, k < 64 * i → bt (g (k / 32)) (k % 32) = hq_bl fw k) → hq_At p l e R s m args below meth c cells slots Q D A H0 3 [(dI, .int), (dL, .long)] [(q, .inl (dI, 48, .inl g)), (w, .inl (dL, 24, .inr (.inl fw)))] [(2, .int (nI i)), (0, .ref q), (1, .ref w)] 2 := by
  intro n
  induction n with
  | zero =>
    intro i hi g hg H locs ls hK hP hD hS hl
    obtain rfl : i = 24 := by omega
    refine lv_iload_n hx hb dX3_fromLongArrayToByte32Array_2 rfl (lv_at hl 0 rfl) ?_
    refine lv_aload_n hx hb dX3_fromLongArrayToByte32Array_3 rfl (lv_at hl 2 rfl) ?_
    refine hq_alen hx hb hK hP 1 1 rfl rfl dX3_fromLongArrayToByte32Array_4 ?_
    refine lv_icmp_eq (tgt := 37) hx hb dX3_fromLongArrayToByte32Array_5 (by decide) (fun _ => ?_) (fun hz => absurd (rfl) hz)
    exact ex g hg _ _ _ hK hP hD hS hl
  | succ n ih =>
    intro i hi g hg H locs ls hK hP hD hS hl
    refine lv_iload_n hx hb dX3_fromLongArrayToByte32Array_2 rfl (lv_at hl 0 rfl) ?_
    refine lv_aload_n hx hb dX3_fromLongArrayToByte32Array_3 rfl (lv_at hl 2 rfl) ?_
    refine hq_alen hx hb hK hP 1 1 rfl rfl dX3_fromLongArrayToByte32Array_4 ?_
    refine lv_icmp_eq (tgt := 37) hx hb dX3_fromLongArrayToByte32Array_5 (by decide) (fun hz => absurd hz (fun z => absurd ((nI_eq (by omega) (by omega)).mp z) (by omega))) (fun _ => ?_)
    refine lv_aload_n hx hb dX3_fromLongArrayToByte32Array_8 rfl (lv_at hl 1 rfl) ?_
    refine lv_iconst (v := nI 2) hx hb dX3_fromLongArrayToByte32Array_9 (by decide) ?_
    refine lv_iload_n hx hb dX3_fromLongArrayToByte32Array_10 rfl (lv_at hl 0 rfl) ?_
    refine hq_mul hx hb dX3_fromLongArrayToByte32Array_11 ?_
    refine lv_aload_n hx hb dX3_fromLongArrayToByte32Array_12 rfl (lv_at hl 2 rfl) ?_
    refine lv_iload_n hx hb dX3_fromLongArrayToByte32Array_13 rfl (lv_at hl 0 rfl) ?_
    refine hq_rl hx hb hK hP 1 1 rfl rfl (by omega) (by omega) dX3_fromLongArrayToByte32Array_14 ?_
    refine lv_l2i hx hb dX3_fromLongArrayToByte32Array_15 rfl ?_
    refine hq_si (ws' := [(q, .inl (dI, 48, .inl (upd g (2 * i) ((fw i).toInt32)))), (w, .inl (dL, 24, .inr (.inl fw)))]) hx hb hK hP hD hS 0 0 rfl rfl (by omega) (by omega) rfl dX3_fromLongArrayToByte32Array_16 (fun H locs hP hD hS => ?_)
    refine lv_aload_n hx hb dX3_fromLongArrayToByte32Array_17 rfl (lv_at hl 1 rfl) ?_
    refine lv_iconst (v := nI 2) hx hb dX3_fromLongArrayToByte32Array_18 (by decide) ?_
    refine lv_iload_n hx hb dX3_fromLongArrayToByte32Array_19 rfl (lv_at hl 0 rfl) ?_
    refine hq_mul hx hb dX3_fromLongArrayToByte32Array_20 ?_
    refine lv_iconst (v := nI 1) hx hb dX3_fromLongArrayToByte32Array_21 (by decide) ?_
    refine hq_add hx hb dX3_fromLongArrayToByte32Array_22 ?_
    refine lv_aload_n hx hb dX3_fromLongArrayToByte32Array_23 rfl (lv_at hl 2 rfl) ?_
    refine lv_iload_n hx hb dX3_fromLongArrayToByte32Array_24 rfl (lv_at hl 0 rfl) ?_
    refine hq_rl hx hb hK hP 1 1 rfl rfl (by omega) (by omega) dX3_fromLongArrayToByte32Array_25 ?_
    refine lv_bipush (v := nI 32) hx hb dX3_fromLongArrayToByte32Array_26 (by decide) ?_
    refine lv_lshr hx hb dX3_fromLongArrayToByte32Array_28 rfl ?_
    refine lv_l2i hx hb dX3_fromLongArrayToByte32Array_29 rfl ?_
    refine hq_si (ws' := [(q, .inl (dI, 48, .inl (upd (upd g (2 * i) ((fw i).toInt32)) ((2 * i) + 1) (((fw i) >>> ((nI 32).toInt64 &&& 63)).toInt32)))), (w, .inl (dL, 24, .inr (.inl fw)))]) hx hb hK hP hD hS 0 0 rfl rfl (by omega) (by omega) rfl dX3_fromLongArrayToByte32Array_30 (fun H locs hP hD hS => ?_)
    refine hq_inc (a := i) (d := 1) (lv' := [(2, .int (nI (i + 1))), (0, .ref q), (1, .ref w)]) hx hb dX3_fromLongArrayToByte32Array_31 hl (k := 0) rfl (by decide) (by decide) rfl (fun ls hl => ?_)
    refine lv_goto (tgt := 2) hx hb dX3_fromLongArrayToByte32Array_34 (by decide) ?_
    exact ih (i + 1) (by omega) _ (hq_ut_step hg) _ _ _ hK hP hD hS hl
set_option maxHeartbeats 4000000 in
set_option maxRecDepth 100000 in
/-- Utils.fromLongArrayToByte32Array: the longs' bits, in ints -/
theorem metX3_from (l : Launch) (D : va_G) (q w : Nat) (dI dL : ClassId) (sz : Nat) (g : Nat → Int32) (fw : Nat → Int64) :
    hq_Mv (S := Nat → Int32) l yX3_fromLongArrayToByte32Array cX3_fromLongArrayToByte32Array 3 ({ frames := 0, cells := 0, slots := 0, locals := 0 }) D [.ref q, .ref w] sz [(q, .inl (dI, 48, .inl g)), (w, .inl (dL, 24, .inr (.inl fw)))] [(dI, .int), (dL, .long)] (fun g' => ∀ k, k < 1536 → bt (g' (k / 32)) (k % 32) = hq_bl fw k) (fun g' => [(q, .inl (dI, 48, .inl g')), (w, .inl (dL, 24, .inr (.inl fw)))]) (fun _ => [(dI, .int), (dL, .long)]) := by
  refine hq_startV (by decide) (Nat.le_of_ble_eq_true rfl) ?_
  intro p e s m below meth c A ls hx hb hr hml hown hlocks hname hts hK hP hD hS hA hl
  have hown : s.vm.findClass RX3 = some m.cls := hown
  have hl : lv_has ls 3 [(0, .ref q), (1, .ref w)] := hl
  refine lv_iconst (v := nI 0) hx hb dX3_fromLongArrayToByte32Array_0 (by decide) ?_
  refine lv_istore_n (lv' := [(2, .int (nI 0)), (0, .ref q), (1, .ref w)]) hx hb dX3_fromLongArrayToByte32Array_1 rfl hl (by decide) rfl (fun ls hl => ?_)
  refine hq_ut_loop hx hb (fun g' hg' H locs ls hK hP hD hS hl => ?_) 24 0 rfl g (fun k hk => absurd hk (by omega)) _ _ _ hK hP hD hS hl
  exact hq_vret hx hb hr hlocks dX3_fromLongArrayToByte32Array_37 hK hP hD hS g' hg' ⟨by decide, by decide⟩ [0, 1] rfl (by decide) [0, 1] rfl
set_option maxHeartbeats 4000000 in
set_option maxRecDepth 100000 in
/-- Bit0Mask: all bits are the lowest -/
theorem metX2_Bit0Mask (l : Launch) (D : va_G) (sz : Nat) (b : Int32) :
    hq_Mi (S := Unit) l yX2_Bit0Mask cX2_Bit0Mask 1 .int ({ frames := 0, cells := 0, slots := 0, locals := 0 }) D [.int b] sz [] [] (fun r _ => r = hq_mk b) (fun _ => []) (fun _ => []) := by
  refine hq_startI (by decide) (Nat.le_of_ble_eq_true rfl) ?_
  intro p e s m below meth c A ls hx hb hr hml hown hlocks hname hts hK hP hD hS hA hl
  have hown : s.vm.findClass RX2 = some m.cls := hown
  have hl : lv_has ls 1 [(0, .int b)] := hl
  refine lv_iload_n hx hb dX2_Bit0Mask_0 rfl (lv_at hl 0 rfl) ?_
  refine lv_iconst (v := nI 1) hx hb dX2_Bit0Mask_1 (by decide) ?_
  refine lv_iand hx hb dX2_Bit0Mask_2 ?_
  refine lv_ineg hx hb dX2_Bit0Mask_3 ?_
  exact hq_iret hx hb hr hlocks dX2_Bit0Mask_4 hK hP hD hS () rfl ⟨by decide, by decide⟩ [] rfl (by decide) [] rfl
set_option maxHeartbeats 4000000 in
set_option maxRecDepth 100000 in
/-- encodeSub: the four words of a letter -/
theorem metX2_encodeSub (l : Launch) (D : va_G) (q : Nat) (dI : ClassId) (sz : Nat) (f : Nat → Int32) (mm : Int32) :
    hq_Mv (S := Nat → Int32) l yX2_encodeSub cX2_encodeSub 3 ({ frames := 1, cells := 0, slots := 0, locals := 20 }) D [.ref q, .int mm] sz [(q, .inl (dI, 4, .inl f))] [(dI, .int)] (fun f' => ∀ j, j < 4 → f' j = hq_w4 mm j) (fun f' => [(q, .inl (dI, 4, .inl f'))]) (fun _ => [(dI, .int)]) := by
  refine hq_startV (by decide) (Nat.le_of_ble_eq_true rfl) ?_
  intro p e s m below meth c A ls hx hb hr hml hown hlocks hname hts hK hP hD hS hA hl
  have hown : s.vm.findClass RX2 = some m.cls := hown
  have hl : lv_has ls 3 [(0, .ref q), (1, .int mm)] := hl
  refine lv_iload_n hx hb dX2_encodeSub_0 rfl (lv_at hl 1 rfl) ?_
  refine lv_bipush (v := nI 7) hx hb dX2_encodeSub_1 (by decide) ?_
  refine lv_ishr hx hb dX2_encodeSub_3 ?_
  refine hq_callSi (As := [.int (mm >>> ((nI 7) &&& 31))]) (rest := []) (wr := [(q, .inl (dI, 4, .inl f))]) (tr := [(dI, .int)]) (cells' := 0) (slots' := 0) ⟨hx, hb, hml, hown, hts⟩ (metX2_Bit0Mask l D _ (mm >>> ((nI 7) &&& 31))) 1 q44 q45 q4 q46 (by decide +kernel) rfl ⟨by decide, by decide⟩ ⟨by decide, by decide⟩ ⟨Nat.le_refl _, Nat.le_refl _⟩ hl rfl (Nat.le_of_ble_eq_true rfl) dX2_encodeSub_4 hK hP hD hS hA [] [0] rfl rfl (by decide) (by decide) (by decide) [] [0] rfl rfl (fun r _ H locs hw hK hP hD hS => ?_)
  subst hw
  have hP : va_P D vwCl [(q, .inl (dI, 4, .inl f))] H := hP
  have hD : va_D A [(q, .inl (dI, 4, .inl f))] := hD
  have hK : va_K D vwCl [(dI, .int)] s := hK
  refine lv_istore_n (lv' := [(2, .int (hq_mk (mm >>> ((nI 7) &&& 31)))), (0, .ref q), (1, .int mm)]) hx hb dX2_encodeSub_7 rfl hl (by decide) rfl (fun ls hl => ?_)
  refine lv_iload_n hx hb dX2_encodeSub_8 rfl (lv_at hl 0 rfl) ?_
  refine lv_iload_n hx hb dX2_encodeSub_9 rfl (lv_at hl 2 rfl) ?_
  refine hq_callSi (As := [.int mm]) (rest := [.int (hq_mk (mm >>> ((nI 7) &&& 31)))]) (wr := [(q, .inl (dI, 4, .inl f))]) (tr := [(dI, .int)]) (cells' := 0) (slots' := 0) ⟨hx, hb, hml, hown, hts⟩ (metX2_Bit0Mask l D _ mm) 1 q44 q45 q4 q46 (by decide +kernel) rfl ⟨by decide, by decide⟩ ⟨by decide, by decide⟩ ⟨Nat.le_refl _, Nat.le_refl _⟩ hl rfl (Nat.le_of_ble_eq_true rfl) dX2_encodeSub_10 hK hP hD hS hA [] [0] rfl rfl (by decide) (by decide) (by decide) [] [0] rfl rfl (fun r _ H locs hw hK hP hD hS => ?_)
  subst hw
  have hP : va_P D vwCl [(q, .inl (dI, 4, .inl f))] H := hP
  have hD : va_D A [(q, .inl (dI, 4, .inl f))] := hD
  have hK : va_K D vwCl [(dI, .int)] s := hK
  refine lv_ldc hx hb hown (hts _ q47) dX2_encodeSub_13 ?_
  refine lv_iand hx hb dX2_encodeSub_15 ?_
  refine lv_ixor hx hb dX2_encodeSub_16 ?_
  refine lv_istore_n (lv' := [(2, .int ((hq_mk (mm >>> ((nI 7) &&& 31))) ^^^ ((hq_mk mm) &&& (-1431655766)))), (0, .ref q), (1, .int mm)]) hx hb dX2_encodeSub_17 rfl hl (by decide) rfl (fun ls hl => ?_)
  refine lv_iload_n hx hb dX2_encodeSub_18 rfl (lv_at hl 0 rfl) ?_
  refine lv_iload_n hx hb dX2_encodeSub_19 rfl (lv_at hl 2 rfl) ?_
  refine lv_iconst (v := nI 1) hx hb dX2_encodeSub_20 (by decide) ?_
  refine lv_ishr hx hb dX2_encodeSub_21 ?_
  refine hq_callSi (As := [.int (mm >>> ((nI 1) &&& 31))]) (rest := [.int ((hq_mk (mm >>> ((nI 7) &&& 31))) ^^^ ((hq_mk mm) &&& (-1431655766)))]) (wr := [(q, .inl (dI, 4, .inl f))]) (tr := [(dI, .int)]) (cells' := 0) (slots' := 0) ⟨hx, hb, hml, hown, hts⟩ (metX2_Bit0Mask l D _ (mm >>> ((nI 1) &&& 31))) 1 q44 q45 q4 q46 (by decide +kernel) rfl ⟨by decide, by decide⟩ ⟨by decide, by decide⟩ ⟨Nat.le_refl _, Nat.le_refl _⟩ hl rfl (Nat.le_of_ble_eq_true rfl) dX2_encodeSub_22 hK hP hD hS hA [] [0] rfl rfl (by decide) (by decide) (by decide) [] [0] rfl rfl (fun r _ H locs hw hK hP hD hS => ?_)
  subst hw
  have hP : va_P D vwCl [(q, .inl (dI, 4, .inl f))] H := hP
  have hD : va_D A [(q, .inl (dI, 4, .inl f))] := hD
  have hK : va_K D vwCl [(dI, .int)] s := hK
  refine lv_ldc hx hb hown (hts _ q48) dX2_encodeSub_25 ?_
  refine lv_iand hx hb dX2_encodeSub_27 ?_
  refine lv_ixor hx hb dX2_encodeSub_28 ?_
  refine lv_istore_n (lv' := [(2, .int (((hq_mk (mm >>> ((nI 7) &&& 31))) ^^^ ((hq_mk mm) &&& (-1431655766))) ^^^ ((hq_mk (mm >>> ((nI 1) &&& 31))) &&& (-858993460)))), (0, .ref q), (1, .int mm)]) hx hb dX2_encodeSub_29 rfl hl (by decide) rfl (fun ls hl => ?_)
  refine lv_iload_n hx hb dX2_encodeSub_30 rfl (lv_at hl 0 rfl) ?_
  refine lv_iload_n hx hb dX2_encodeSub_31 rfl (lv_at hl 2 rfl) ?_
  refine lv_iconst (v := nI 2) hx hb dX2_encodeSub_32 (by decide) ?_
  refine lv_ishr hx hb dX2_encodeSub_33 ?_
  refine hq_callSi (As := [.int (mm >>> ((nI 2) &&& 31))]) (rest := [.int (((hq_mk (mm >>> ((nI 7) &&& 31))) ^^^ ((hq_mk mm) &&& (-1431655766))) ^^^ ((hq_mk (mm >>> ((nI 1) &&& 31))) &&& (-858993460)))]) (wr := [(q, .inl (dI, 4, .inl f))]) (tr := [(dI, .int)]) (cells' := 0) (slots' := 0) ⟨hx, hb, hml, hown, hts⟩ (metX2_Bit0Mask l D _ (mm >>> ((nI 2) &&& 31))) 1 q44 q45 q4 q46 (by decide +kernel) rfl ⟨by decide, by decide⟩ ⟨by decide, by decide⟩ ⟨Nat.le_refl _, Nat.le_refl _⟩ hl rfl (Nat.le_of_ble_eq_true rfl) dX2_encodeSub_34 hK hP hD hS hA [] [0] rfl rfl (by decide) (by decide) (by decide) [] [0] rfl rfl (fun r _ H locs hw hK hP hD hS => ?_)
  subst hw
  have hP : va_P D vwCl [(q, .inl (dI, 4, .inl f))] H := hP
  have hD : va_D A [(q, .inl (dI, 4, .inl f))] := hD
  have hK : va_K D vwCl [(dI, .int)] s := hK
  refine lv_ldc hx hb hown (hts _ q49) dX2_encodeSub_37 ?_
  refine lv_iand hx hb dX2_encodeSub_39 ?_
  refine lv_ixor hx hb dX2_encodeSub_40 ?_
  refine lv_istore_n (lv' := [(2, .int ((((hq_mk (mm >>> ((nI 7) &&& 31))) ^^^ ((hq_mk mm) &&& (-1431655766))) ^^^ ((hq_mk (mm >>> ((nI 1) &&& 31))) &&& (-858993460))) ^^^ ((hq_mk (mm >>> ((nI 2) &&& 31))) &&& (-252645136)))), (0, .ref q), (1, .int mm)]) hx hb dX2_encodeSub_41 rfl hl (by decide) rfl (fun ls hl => ?_)
  refine lv_iload_n hx hb dX2_encodeSub_42 rfl (lv_at hl 0 rfl) ?_
  refine lv_iload_n hx hb dX2_encodeSub_43 rfl (lv_at hl 2 rfl) ?_
  refine lv_iconst (v := nI 3) hx hb dX2_encodeSub_44 (by decide) ?_
  refine lv_ishr hx hb dX2_encodeSub_45 ?_
  refine hq_callSi (As := [.int (mm >>> ((nI 3) &&& 31))]) (rest := [.int ((((hq_mk (mm >>> ((nI 7) &&& 31))) ^^^ ((hq_mk mm) &&& (-1431655766))) ^^^ ((hq_mk (mm >>> ((nI 1) &&& 31))) &&& (-858993460))) ^^^ ((hq_mk (mm >>> ((nI 2) &&& 31))) &&& (-252645136)))]) (wr := [(q, .inl (dI, 4, .inl f))]) (tr := [(dI, .int)]) (cells' := 0) (slots' := 0) ⟨hx, hb, hml, hown, hts⟩ (metX2_Bit0Mask l D _ (mm >>> ((nI 3) &&& 31))) 1 q44 q45 q4 q46 (by decide +kernel) rfl ⟨by decide, by decide⟩ ⟨by decide, by decide⟩ ⟨Nat.le_refl _, Nat.le_refl _⟩ hl rfl (Nat.le_of_ble_eq_true rfl) dX2_encodeSub_46 hK hP hD hS hA [] [0] rfl rfl (by decide) (by decide) (by decide) [] [0] rfl rfl (fun r _ H locs hw hK hP hD hS => ?_)
  subst hw
  have hP : va_P D vwCl [(q, .inl (dI, 4, .inl f))] H := hP
  have hD : va_D A [(q, .inl (dI, 4, .inl f))] := hD
  have hK : va_K D vwCl [(dI, .int)] s := hK
  refine lv_ldc hx hb hown (hts _ q50) dX2_encodeSub_49 ?_
  refine lv_iand hx hb dX2_encodeSub_51 ?_
  refine lv_ixor hx hb dX2_encodeSub_52 ?_
  refine lv_istore_n (lv' := [(2, .int (((((hq_mk (mm >>> ((nI 7) &&& 31))) ^^^ ((hq_mk mm) &&& (-1431655766))) ^^^ ((hq_mk (mm >>> ((nI 1) &&& 31))) &&& (-858993460))) ^^^ ((hq_mk (mm >>> ((nI 2) &&& 31))) &&& (-252645136))) ^^^ ((hq_mk (mm >>> ((nI 3) &&& 31))) &&& (-16711936)))), (0, .ref q), (1, .int mm)]) hx hb dX2_encodeSub_53 rfl hl (by decide) rfl (fun ls hl => ?_)
  refine lv_iload_n hx hb dX2_encodeSub_54 rfl (lv_at hl 0 rfl) ?_
  refine lv_iload_n hx hb dX2_encodeSub_55 rfl (lv_at hl 2 rfl) ?_
  refine lv_iconst (v := nI 4) hx hb dX2_encodeSub_56 (by decide) ?_
  refine lv_ishr hx hb dX2_encodeSub_57 ?_
  refine hq_callSi (As := [.int (mm >>> ((nI 4) &&& 31))]) (rest := [.int (((((hq_mk (mm >>> ((nI 7) &&& 31))) ^^^ ((hq_mk mm) &&& (-1431655766))) ^^^ ((hq_mk (mm >>> ((nI 1) &&& 31))) &&& (-858993460))) ^^^ ((hq_mk (mm >>> ((nI 2) &&& 31))) &&& (-252645136))) ^^^ ((hq_mk (mm >>> ((nI 3) &&& 31))) &&& (-16711936)))]) (wr := [(q, .inl (dI, 4, .inl f))]) (tr := [(dI, .int)]) (cells' := 0) (slots' := 0) ⟨hx, hb, hml, hown, hts⟩ (metX2_Bit0Mask l D _ (mm >>> ((nI 4) &&& 31))) 1 q44 q45 q4 q46 (by decide +kernel) rfl ⟨by decide, by decide⟩ ⟨by decide, by decide⟩ ⟨Nat.le_refl _, Nat.le_refl _⟩ hl rfl (Nat.le_of_ble_eq_true rfl) dX2_encodeSub_58 hK hP hD hS hA [] [0] rfl rfl (by decide) (by decide) (by decide) [] [0] rfl rfl (fun r _ H locs hw hK hP hD hS => ?_)
  subst hw
  have hP : va_P D vwCl [(q, .inl (dI, 4, .inl f))] H := hP
  have hD : va_D A [(q, .inl (dI, 4, .inl f))] := hD
  have hK : va_K D vwCl [(dI, .int)] s := hK
  refine lv_ldc hx hb hown (hts _ q51) dX2_encodeSub_61 ?_
  refine lv_iand hx hb dX2_encodeSub_63 ?_
  refine lv_ixor hx hb dX2_encodeSub_64 ?_
  refine lv_istore_n (lv' := [(2, .int ((((((hq_mk (mm >>> ((nI 7) &&& 31))) ^^^ ((hq_mk mm) &&& (-1431655766))) ^^^ ((hq_mk (mm >>> ((nI 1) &&& 31))) &&& (-858993460))) ^^^ ((hq_mk (mm >>> ((nI 2) &&& 31))) &&& (-252645136))) ^^^ ((hq_mk (mm >>> ((nI 3) &&& 31))) &&& (-16711936))) ^^^ ((hq_mk (mm >>> ((nI 4) &&& 31))) &&& (-65536)))), (0, .ref q), (1, .int mm)]) hx hb dX2_encodeSub_65 rfl hl (by decide) rfl (fun ls hl => ?_)
  refine lv_aload_n hx hb dX2_encodeSub_66 rfl (lv_at hl 1 rfl) ?_
  refine lv_iconst (v := nI 0) hx hb dX2_encodeSub_67 (by decide) ?_
  refine lv_iload_n hx hb dX2_encodeSub_68 rfl (lv_at hl 0 rfl) ?_
  refine hq_si (ws' := [(q, .inl (dI, 4, .inl (upd f 0 ((((((hq_mk (mm >>> ((nI 7) &&& 31))) ^^^ ((hq_mk mm) &&& (-1431655766))) ^^^ ((hq_mk (mm >>> ((nI 1) &&& 31))) &&& (-858993460))) ^^^ ((hq_mk (mm >>> ((nI 2) &&& 31))) &&& (-252645136))) ^^^ ((hq_mk (mm >>> ((nI 3) &&& 31))) &&& (-16711936))) ^^^ ((hq_mk (mm >>> ((nI 4) &&& 31))) &&& (-65536))))))]) hx hb hK hP hD hS 0 0 rfl rfl (by omega) (by omega) rfl dX2_encodeSub_69 (fun H locs hP hD hS => ?_)
  refine lv_iload_n hx hb dX2_encodeSub_70 rfl (lv_at hl 0 rfl) ?_
  refine lv_iload_n hx hb dX2_encodeSub_71 rfl (lv_at hl 2 rfl) ?_
  refine lv_iconst (v := nI 5) hx hb dX2_encodeSub_72 (by decide) ?_
  refine lv_ishr hx hb dX2_encodeSub_73 ?_
  refine hq_callSi (As := [.int (mm >>> ((nI 5) &&& 31))]) (rest := [.int ((((((hq_mk (mm >>> ((nI 7) &&& 31))) ^^^ ((hq_mk mm) &&& (-1431655766))) ^^^ ((hq_mk (mm >>> ((nI 1) &&& 31))) &&& (-858993460))) ^^^ ((hq_mk (mm >>> ((nI 2) &&& 31))) &&& (-252645136))) ^^^ ((hq_mk (mm >>> ((nI 3) &&& 31))) &&& (-16711936))) ^^^ ((hq_mk (mm >>> ((nI 4) &&& 31))) &&& (-65536)))]) (wr := [(q, .inl (dI, 4, .inl (upd f 0 ((((((hq_mk (mm >>> ((nI 7) &&& 31))) ^^^ ((hq_mk mm) &&& (-1431655766))) ^^^ ((hq_mk (mm >>> ((nI 1) &&& 31))) &&& (-858993460))) ^^^ ((hq_mk (mm >>> ((nI 2) &&& 31))) &&& (-252645136))) ^^^ ((hq_mk (mm >>> ((nI 3) &&& 31))) &&& (-16711936))) ^^^ ((hq_mk (mm >>> ((nI 4) &&& 31))) &&& (-65536))))))]) (tr := [(dI, .int)]) (cells' := 0) (slots' := 0) ⟨hx, hb, hml, hown, hts⟩ (metX2_Bit0Mask l D _ (mm >>> ((nI 5) &&& 31))) 1 q44 q45 q4 q46 (by decide +kernel) rfl ⟨by decide, by decide⟩ ⟨by decide, by decide⟩ ⟨Nat.le_refl _, Nat.le_refl _⟩ hl rfl (Nat.le_of_ble_eq_true rfl) dX2_encodeSub_74 hK hP hD hS hA [] [0] rfl rfl (by decide) (by decide) (by decide) [] [0] rfl rfl (fun r _ H locs hw hK hP hD hS => ?_)
  subst hw
  have hP : va_P D vwCl [(q, .inl (dI, 4, .inl (upd f 0 ((((((hq_mk (mm >>> ((nI 7) &&& 31))) ^^^ ((hq_mk mm) &&& (-1431655766))) ^^^ ((hq_mk (mm >>> ((nI 1) &&& 31))) &&& (-858993460))) ^^^ ((hq_mk (mm >>> ((nI 2) &&& 31))) &&& (-252645136))) ^^^ ((hq_mk (mm >>> ((nI 3) &&& 31))) &&& (-16711936))) ^^^ ((hq_mk (mm >>> ((nI 4) &&& 31))) &&& (-65536))))))] H := hP
  have hD : va_D A [(q, .inl (dI, 4, .inl (upd f 0 ((((((hq_mk (mm >>> ((nI 7) &&& 31))) ^^^ ((hq_mk mm) &&& (-1431655766))) ^^^ ((hq_mk (mm >>> ((nI 1) &&& 31))) &&& (-858993460))) ^^^ ((hq_mk (mm >>> ((nI 2) &&& 31))) &&& (-252645136))) ^^^ ((hq_mk (mm >>> ((nI 3) &&& 31))) &&& (-16711936))) ^^^ ((hq_mk (mm >>> ((nI 4) &&& 31))) &&& (-65536))))))] := hD
  have hK : va_K D vwCl [(dI, .int)] s := hK
  refine lv_ixor hx hb dX2_encodeSub_77 ?_
  refine lv_istore_n (lv' := [(2, .int (((((((hq_mk (mm >>> ((nI 7) &&& 31))) ^^^ ((hq_mk mm) &&& (-1431655766))) ^^^ ((hq_mk (mm >>> ((nI 1) &&& 31))) &&& (-858993460))) ^^^ ((hq_mk (mm >>> ((nI 2) &&& 31))) &&& (-252645136))) ^^^ ((hq_mk (mm >>> ((nI 3) &&& 31))) &&& (-16711936))) ^^^ ((hq_mk (mm >>> ((nI 4) &&& 31))) &&& (-65536))) ^^^ (hq_mk (mm >>> ((nI 5) &&& 31))))), (0, .ref q), (1, .int mm)]) hx hb dX2_encodeSub_78 rfl hl (by decide) rfl (fun ls hl => ?_)
  refine lv_aload_n hx hb dX2_encodeSub_79 rfl (lv_at hl 1 rfl) ?_
  refine lv_iconst (v := nI 1) hx hb dX2_encodeSub_80 (by decide) ?_
  refine lv_iload_n hx hb dX2_encodeSub_81 rfl (lv_at hl 0 rfl) ?_
  refine hq_si (ws' := [(q, .inl (dI, 4, .inl (upd (upd f 0 ((((((hq_mk (mm >>> ((nI 7) &&& 31))) ^^^ ((hq_mk mm) &&& (-1431655766))) ^^^ ((hq_mk (mm >>> ((nI 1) &&& 31))) &&& (-858993460))) ^^^ ((hq_mk (mm >>> ((nI 2) &&& 31))) &&& (-252645136))) ^^^ ((hq_mk (mm >>> ((nI 3) &&& 31))) &&& (-16711936))) ^^^ ((hq_mk (mm >>> ((nI 4) &&& 31))) &&& (-65536)))) 1 (((((((hq_mk (mm >>> ((nI 7) &&& 31))) ^^^ ((hq_mk mm) &&& (-1431655766))) ^^^ ((hq_mk (mm >>> ((nI 1) &&& 31))) &&& (-858993460))) ^^^ ((hq_mk (mm >>> ((nI 2) &&& 31))) &&& (-252645136))) ^^^ ((hq_mk (mm >>> ((nI 3) &&& 31))) &&& (-16711936))) ^^^ ((hq_mk (mm >>> ((nI 4) &&& 31))) &&& (-65536))) ^^^ (hq_mk (mm >>> ((nI 5) &&& 31)))))))]) hx hb hK hP hD hS 0 0 rfl rfl (by omega) (by omega) rfl dX2_encodeSub_82 (fun H locs hP hD hS => ?_)
  refine lv_iload_n hx hb dX2_encodeSub_83 rfl (lv_at hl 0 rfl) ?_
  refine lv_iload_n hx hb dX2_encodeSub_84 rfl (lv_at hl 2 rfl) ?_
  refine lv_bipush (v := nI 6) hx hb dX2_encodeSub_85 (by decide) ?_
  refine lv_ishr hx hb dX2_encodeSub_87 ?_
  refine hq_callSi (As := [.int (mm >>> ((nI 6) &&& 31))]) (rest := [.int (((((((hq_mk (mm >>> ((nI 7) &&& 31))) ^^^ ((hq_mk mm) &&& (-1431655766))) ^^^ ((hq_mk (mm >>> ((nI 1) &&& 31))) &&& (-858993460))) ^^^ ((hq_mk (mm >>> ((nI 2) &&& 31))) &&& (-252645136))) ^^^ ((hq_mk (mm >>> ((nI 3) &&& 31))) &&& (-16711936))) ^^^ ((hq_mk (mm >>> ((nI 4) &&& 31))) &&& (-65536))) ^^^ (hq_mk (mm >>> ((nI 5) &&& 31))))]) (wr := [(q, .inl (dI, 4, .inl (upd (upd f 0 ((((((hq_mk (mm >>> ((nI 7) &&& 31))) ^^^ ((hq_mk mm) &&& (-1431655766))) ^^^ ((hq_mk (mm >>> ((nI 1) &&& 31))) &&& (-858993460))) ^^^ ((hq_mk (mm >>> ((nI 2) &&& 31))) &&& (-252645136))) ^^^ ((hq_mk (mm >>> ((nI 3) &&& 31))) &&& (-16711936))) ^^^ ((hq_mk (mm >>> ((nI 4) &&& 31))) &&& (-65536)))) 1 (((((((hq_mk (mm >>> ((nI 7) &&& 31))) ^^^ ((hq_mk mm) &&& (-1431655766))) ^^^ ((hq_mk (mm >>> ((nI 1) &&& 31))) &&& (-858993460))) ^^^ ((hq_mk (mm >>> ((nI 2) &&& 31))) &&& (-252645136))) ^^^ ((hq_mk (mm >>> ((nI 3) &&& 31))) &&& (-16711936))) ^^^ ((hq_mk (mm >>> ((nI 4) &&& 31))) &&& (-65536))) ^^^ (hq_mk (mm >>> ((nI 5) &&& 31)))))))]) (tr := [(dI, .int)]) (cells' := 0) (slots' := 0) ⟨hx, hb, hml, hown, hts⟩ (metX2_Bit0Mask l D _ (mm >>> ((nI 6) &&& 31))) 1 q44 q45 q4 q46 (by decide +kernel) rfl ⟨by decide, by decide⟩ ⟨by decide, by decide⟩ ⟨Nat.le_refl _, Nat.le_refl _⟩ hl rfl (Nat.le_of_ble_eq_true rfl) dX2_encodeSub_88 hK hP hD hS hA [] [0] rfl rfl (by decide) (by decide) (by decide) [] [0] rfl rfl (fun r _ H locs hw hK hP hD hS => ?_)
  subst hw
  have hP : va_P D vwCl [(q, .inl (dI, 4, .inl (upd (upd f 0 ((((((hq_mk (mm >>> ((nI 7) &&& 31))) ^^^ ((hq_mk mm) &&& (-1431655766))) ^^^ ((hq_mk (mm >>> ((nI 1) &&& 31))) &&& (-858993460))) ^^^ ((hq_mk (mm >>> ((nI 2) &&& 31))) &&& (-252645136))) ^^^ ((hq_mk (mm >>> ((nI 3) &&& 31))) &&& (-16711936))) ^^^ ((hq_mk (mm >>> ((nI 4) &&& 31))) &&& (-65536)))) 1 (((((((hq_mk (mm >>> ((nI 7) &&& 31))) ^^^ ((hq_mk mm) &&& (-1431655766))) ^^^ ((hq_mk (mm >>> ((nI 1) &&& 31))) &&& (-858993460))) ^^^ ((hq_mk (mm >>> ((nI 2) &&& 31))) &&& (-252645136))) ^^^ ((hq_mk (mm >>> ((nI 3) &&& 31))) &&& (-16711936))) ^^^ ((hq_mk (mm >>> ((nI 4) &&& 31))) &&& (-65536))) ^^^ (hq_mk (mm >>> ((nI 5) &&& 31)))))))] H := hP
  have hD : va_D A [(q, .inl (dI, 4, .inl (upd (upd f 0 ((((((hq_mk (mm >>> ((nI 7) &&& 31))) ^^^ ((hq_mk mm) &&& (-1431655766))) ^^^ ((hq_mk (mm >>> ((nI 1) &&& 31))) &&& (-858993460))) ^^^ ((hq_mk (mm >>> ((nI 2) &&& 31))) &&& (-252645136))) ^^^ ((hq_mk (mm >>> ((nI 3) &&& 31))) &&& (-16711936))) ^^^ ((hq_mk (mm >>> ((nI 4) &&& 31))) &&& (-65536)))) 1 (((((((hq_mk (mm >>> ((nI 7) &&& 31))) ^^^ ((hq_mk mm) &&& (-1431655766))) ^^^ ((hq_mk (mm >>> ((nI 1) &&& 31))) &&& (-858993460))) ^^^ ((hq_mk (mm >>> ((nI 2) &&& 31))) &&& (-252645136))) ^^^ ((hq_mk (mm >>> ((nI 3) &&& 31))) &&& (-16711936))) ^^^ ((hq_mk (mm >>> ((nI 4) &&& 31))) &&& (-65536))) ^^^ (hq_mk (mm >>> ((nI 5) &&& 31)))))))] := hD
  have hK : va_K D vwCl [(dI, .int)] s := hK
  refine lv_ixor hx hb dX2_encodeSub_91 ?_
  refine lv_istore_n (lv' := [(2, .int ((((((((hq_mk (mm >>> ((nI 7) &&& 31))) ^^^ ((hq_mk mm) &&& (-1431655766))) ^^^ ((hq_mk (mm >>> ((nI 1) &&& 31))) &&& (-858993460))) ^^^ ((hq_mk (mm >>> ((nI 2) &&& 31))) &&& (-252645136))) ^^^ ((hq_mk (mm >>> ((nI 3) &&& 31))) &&& (-16711936))) ^^^ ((hq_mk (mm >>> ((nI 4) &&& 31))) &&& (-65536))) ^^^ (hq_mk (mm >>> ((nI 5) &&& 31)))) ^^^ (hq_mk (mm >>> ((nI 6) &&& 31))))), (0, .ref q), (1, .int mm)]) hx hb dX2_encodeSub_92 rfl hl (by decide) rfl (fun ls hl => ?_)
  refine lv_aload_n hx hb dX2_encodeSub_93 rfl (lv_at hl 1 rfl) ?_
  refine lv_iconst (v := nI 3) hx hb dX2_encodeSub_94 (by decide) ?_
  refine lv_iload_n hx hb dX2_encodeSub_95 rfl (lv_at hl 0 rfl) ?_
  refine hq_si (ws' := [(q, .inl (dI, 4, .inl (upd (upd (upd f 0 ((((((hq_mk (mm >>> ((nI 7) &&& 31))) ^^^ ((hq_mk mm) &&& (-1431655766))) ^^^ ((hq_mk (mm >>> ((nI 1) &&& 31))) &&& (-858993460))) ^^^ ((hq_mk (mm >>> ((nI 2) &&& 31))) &&& (-252645136))) ^^^ ((hq_mk (mm >>> ((nI 3) &&& 31))) &&& (-16711936))) ^^^ ((hq_mk (mm >>> ((nI 4) &&& 31))) &&& (-65536)))) 1 (((((((hq_mk (mm >>> ((nI 7) &&& 31))) ^^^ ((hq_mk mm) &&& (-1431655766))) ^^^ ((hq_mk (mm >>> ((nI 1) &&& 31))) &&& (-858993460))) ^^^ ((hq_mk (mm >>> ((nI 2) &&& 31))) &&& (-252645136))) ^^^ ((hq_mk (mm >>> ((nI 3) &&& 31))) &&& (-16711936))) ^^^ ((hq_mk (mm >>> ((nI 4) &&& 31))) &&& (-65536))) ^^^ (hq_mk (mm >>> ((nI 5) &&& 31))))) 3 ((((((((hq_mk (mm >>> ((nI 7) &&& 31))) ^^^ ((hq_mk mm) &&& (-1431655766))) ^^^ ((hq_mk (mm >>> ((nI 1) &&& 31))) &&& (-858993460))) ^^^ ((hq_mk (mm >>> ((nI 2) &&& 31))) &&& (-252645136))) ^^^ ((hq_mk (mm >>> ((nI 3) &&& 31))) &&& (-16711936))) ^^^ ((hq_mk (mm >>> ((nI 4) &&& 31))) &&& (-65536))) ^^^ (hq_mk (mm >>> ((nI 5) &&& 31)))) ^^^ (hq_mk (mm >>> ((nI 6) &&& 31)))))))]) hx hb hK hP hD hS 0 0 rfl rfl (by omega) (by omega) rfl dX2_encodeSub_96 (fun H locs hP hD hS => ?_)
  refine lv_iload_n hx hb dX2_encodeSub_97 rfl (lv_at hl 0 rfl) ?_
  refine lv_iload_n hx hb dX2_encodeSub_98 rfl (lv_at hl 2 rfl) ?_
  refine lv_iconst (v := nI 5) hx hb dX2_encodeSub_99 (by decide) ?_
  refine lv_ishr hx hb dX2_encodeSub_100 ?_
  refine hq_callSi (As := [.int (mm >>> ((nI 5) &&& 31))]) (rest := [.int ((((((((hq_mk (mm >>> ((nI 7) &&& 31))) ^^^ ((hq_mk mm) &&& (-1431655766))) ^^^ ((hq_mk (mm >>> ((nI 1) &&& 31))) &&& (-858993460))) ^^^ ((hq_mk (mm >>> ((nI 2) &&& 31))) &&& (-252645136))) ^^^ ((hq_mk (mm >>> ((nI 3) &&& 31))) &&& (-16711936))) ^^^ ((hq_mk (mm >>> ((nI 4) &&& 31))) &&& (-65536))) ^^^ (hq_mk (mm >>> ((nI 5) &&& 31)))) ^^^ (hq_mk (mm >>> ((nI 6) &&& 31))))]) (wr := [(q, .inl (dI, 4, .inl (upd (upd (upd f 0 ((((((hq_mk (mm >>> ((nI 7) &&& 31))) ^^^ ((hq_mk mm) &&& (-1431655766))) ^^^ ((hq_mk (mm >>> ((nI 1) &&& 31))) &&& (-858993460))) ^^^ ((hq_mk (mm >>> ((nI 2) &&& 31))) &&& (-252645136))) ^^^ ((hq_mk (mm >>> ((nI 3) &&& 31))) &&& (-16711936))) ^^^ ((hq_mk (mm >>> ((nI 4) &&& 31))) &&& (-65536)))) 1 (((((((hq_mk (mm >>> ((nI 7) &&& 31))) ^^^ ((hq_mk mm) &&& (-1431655766))) ^^^ ((hq_mk (mm >>> ((nI 1) &&& 31))) &&& (-858993460))) ^^^ ((hq_mk (mm >>> ((nI 2) &&& 31))) &&& (-252645136))) ^^^ ((hq_mk (mm >>> ((nI 3) &&& 31))) &&& (-16711936))) ^^^ ((hq_mk (mm >>> ((nI 4) &&& 31))) &&& (-65536))) ^^^ (hq_mk (mm >>> ((nI 5) &&& 31))))) 3 ((((((((hq_mk (mm >>> ((nI 7) &&& 31))) ^^^ ((hq_mk mm) &&& (-1431655766))) ^^^ ((hq_mk (mm >>> ((nI 1) &&& 31))) &&& (-858993460))) ^^^ ((hq_mk (mm >>> ((nI 2) &&& 31))) &&& (-252645136))) ^^^ ((hq_mk (mm >>> ((nI 3) &&& 31))) &&& (-16711936))) ^^^ ((hq_mk (mm >>> ((nI 4) &&& 31))) &&& (-65536))) ^^^ (hq_mk (mm >>> ((nI 5) &&& 31)))) ^^^ (hq_mk (mm >>> ((nI 6) &&& 31)))))))]) (tr := [(dI, .int)]) (cells' := 0) (slots' := 0) ⟨hx, hb, hml, hown, hts⟩ (metX2_Bit0Mask l D _ (mm >>> ((nI 5) &&& 31))) 1 q44 q45 q4 q46 (by decide +kernel) rfl ⟨by decide, by decide⟩ ⟨by decide, by decide⟩ ⟨Nat.le_refl _, Nat.le_refl _⟩ hl rfl (Nat.le_of_ble_eq_true rfl) dX2_encodeSub_101 hK hP hD hS hA [] [0] rfl rfl (by decide) (by decide) (by decide) [] [0] rfl rfl (fun r _ H locs hw hK hP hD hS => ?_)
  subst hw
  have hP : va_P D vwCl [(q, .inl (dI, 4, .inl (upd (upd (upd f 0 ((((((hq_mk (mm >>> ((nI 7) &&& 31))) ^^^ ((hq_mk mm) &&& (-1431655766))) ^^^ ((hq_mk (mm >>> ((nI 1) &&& 31))) &&& (-858993460))) ^^^ ((hq_mk (mm >>> ((nI 2) &&& 31))) &&& (-252645136))) ^^^ ((hq_mk (mm >>> ((nI 3) &&& 31))) &&& (-16711936))) ^^^ ((hq_mk (mm >>> ((nI 4) &&& 31))) &&& (-65536)))) 1 (((((((hq_mk (mm >>> ((nI 7) &&& 31))) ^^^ ((hq_mk mm) &&& (-1431655766))) ^^^ ((hq_mk (mm >>> ((nI 1) &&& 31))) &&& (-858993460))) ^^^ ((hq_mk (mm >>> ((nI 2) &&& 31))) &&& (-252645136))) ^^^ ((hq_mk (mm >>> ((nI 3) &&& 31))) &&& (-16711936))) ^^^ ((hq_mk (mm >>> ((nI 4) &&& 31))) &&& (-65536))) ^^^ (hq_mk (mm >>> ((nI 5) &&& 31))))) 3 ((((((((hq_mk (mm >>> ((nI 7) &&& 31))) ^^^ ((hq_mk mm) &&& (-1431655766))) ^^^ ((hq_mk (mm >>> ((nI 1) &&& 31))) &&& (-858993460))) ^^^ ((hq_mk (mm >>> ((nI 2) &&& 31))) &&& (-252645136))) ^^^ ((hq_mk (mm >>> ((nI 3) &&& 31))) &&& (-16711936))) ^^^ ((hq_mk (mm >>> ((nI 4) &&& 31))) &&& (-65536))) ^^^ (hq_mk (mm >>> ((nI 5) &&& 31)))) ^^^ (hq_mk (mm >>> ((nI 6) &&& 31)))))))] H := hP
  have hD : va_D A [(q, .inl (dI, 4, .inl (upd (upd (upd f 0 ((((((hq_mk (mm >>> ((nI 7) &&& 31))) ^^^ ((hq_mk mm) &&& (-1431655766))) ^^^ ((hq_mk (mm >>> ((nI 1) &&& 31))) &&& (-858993460))) ^^^ ((hq_mk (mm >>> ((nI 2) &&& 31))) &&& (-252645136))) ^^^ ((hq_mk (mm >>> ((nI 3) &&& 31))) &&& (-16711936))) ^^^ ((hq_mk (mm >>> ((nI 4) &&& 31))) &&& (-65536)))) 1 (((((((hq_mk (mm >>> ((nI 7) &&& 31))) ^^^ ((hq_mk mm) &&& (-1431655766))) ^^^ ((hq_mk (mm >>> ((nI 1) &&& 31))) &&& (-858993460))) ^^^ ((hq_mk (mm >>> ((nI 2) &&& 31))) &&& (-252645136))) ^^^ ((hq_mk (mm >>> ((nI 3) &&& 31))) &&& (-16711936))) ^^^ ((hq_mk (mm >>> ((nI 4) &&& 31))) &&& (-65536))) ^^^ (hq_mk (mm >>> ((nI 5) &&& 31))))) 3 ((((((((hq_mk (mm >>> ((nI 7) &&& 31))) ^^^ ((hq_mk mm) &&& (-1431655766))) ^^^ ((hq_mk (mm >>> ((nI 1) &&& 31))) &&& (-858993460))) ^^^ ((hq_mk (mm >>> ((nI 2) &&& 31))) &&& (-252645136))) ^^^ ((hq_mk (mm >>> ((nI 3) &&& 31))) &&& (-16711936))) ^^^ ((hq_mk (mm >>> ((nI 4) &&& 31))) &&& (-65536))) ^^^ (hq_mk (mm >>> ((nI 5) &&& 31)))) ^^^ (hq_mk (mm >>> ((nI 6) &&& 31)))))))] := hD
  have hK : va_K D vwCl [(dI, .int)] s := hK
  refine lv_ixor hx hb dX2_encodeSub_104 ?_
  refine lv_istore_n (lv' := [(2, .int (((((((((hq_mk (mm >>> ((nI 7) &&& 31))) ^^^ ((hq_mk mm) &&& (-1431655766))) ^^^ ((hq_mk (mm >>> ((nI 1) &&& 31))) &&& (-858993460))) ^^^ ((hq_mk (mm >>> ((nI 2) &&& 31))) &&& (-252645136))) ^^^ ((hq_mk (mm >>> ((nI 3) &&& 31))) &&& (-16711936))) ^^^ ((hq_mk (mm >>> ((nI 4) &&& 31))) &&& (-65536))) ^^^ (hq_mk (mm >>> ((nI 5) &&& 31)))) ^^^ (hq_mk (mm >>> ((nI 6) &&& 31)))) ^^^ (hq_mk (mm >>> ((nI 5) &&& 31))))), (0, .ref q), (1, .int mm)]) hx hb dX2_encodeSub_105 rfl hl (by decide) rfl (fun ls hl => ?_)
  refine lv_aload_n hx hb dX2_encodeSub_106 rfl (lv_at hl 1 rfl) ?_
  refine lv_iconst (v := nI 2) hx hb dX2_encodeSub_107 (by decide) ?_
  refine lv_iload_n hx hb dX2_encodeSub_108 rfl (lv_at hl 0 rfl) ?_
  refine hq_si (ws' := [(q, .inl (dI, 4, .inl (upd (upd (upd (upd f 0 ((((((hq_mk (mm >>> ((nI 7) &&& 31))) ^^^ ((hq_mk mm) &&& (-1431655766))) ^^^ ((hq_mk (mm >>> ((nI 1) &&& 31))) &&& (-858993460))) ^^^ ((hq_mk (mm >>> ((nI 2) &&& 31))) &&& (-252645136))) ^^^ ((hq_mk (mm >>> ((nI 3) &&& 31))) &&& (-16711936))) ^^^ ((hq_mk (mm >>> ((nI 4) &&& 31))) &&& (-65536)))) 1 (((((((hq_mk (mm >>> ((nI 7) &&& 31))) ^^^ ((hq_mk mm) &&& (-1431655766))) ^^^ ((hq_mk (mm >>> ((nI 1) &&& 31))) &&& (-858993460))) ^^^ ((hq_mk (mm >>> ((nI 2) &&& 31))) &&& (-252645136))) ^^^ ((hq_mk (mm >>> ((nI 3) &&& 31))) &&& (-16711936))) ^^^ ((hq_mk (mm >>> ((nI 4) &&& 31))) &&& (-65536))) ^^^ (hq_mk (mm >>> ((nI 5) &&& 31))))) 3 ((((((((hq_mk (mm >>> ((nI 7) &&& 31))) ^^^ ((hq_mk mm) &&& (-1431655766))) ^^^ ((hq_mk (mm >>> ((nI 1) &&& 31))) &&& (-858993460))) ^^^ ((hq_mk (mm >>> ((nI 2) &&& 31))) &&& (-252645136))) ^^^ ((hq_mk (mm >>> ((nI 3) &&& 31))) &&& (-16711936))) ^^^ ((hq_mk (mm >>> ((nI 4) &&& 31))) &&& (-65536))) ^^^ (hq_mk (mm >>> ((nI 5) &&& 31)))) ^^^ (hq_mk (mm >>> ((nI 6) &&& 31))))) 2 (((((((((hq_mk (mm >>> ((nI 7) &&& 31))) ^^^ ((hq_mk mm) &&& (-1431655766))) ^^^ ((hq_mk (mm >>> ((nI 1) &&& 31))) &&& (-858993460))) ^^^ ((hq_mk (mm >>> ((nI 2) &&& 31))) &&& (-252645136))) ^^^ ((hq_mk (mm >>> ((nI 3) &&& 31))) &&& (-16711936))) ^^^ ((hq_mk (mm >>> ((nI 4) &&& 31))) &&& (-65536))) ^^^ (hq_mk (mm >>> ((nI 5) &&& 31)))) ^^^ (hq_mk (mm >>> ((nI 6) &&& 31)))) ^^^ (hq_mk (mm >>> ((nI 5) &&& 31)))))))]) hx hb hK hP hD hS 0 0 rfl rfl (by omega) (by omega) rfl dX2_encodeSub_109 (fun H locs hP hD hS => ?_)
  exact hq_vret hx hb hr hlocks dX2_encodeSub_110 hK hP hD hS _ (hq_w4_upd mm f) ⟨by decide, by decide⟩ [0] rfl (by decide) [0] rfl
end
section
/-! CONTRACTS: ReedMuller.expandThenSum, hadamardTransform, findPeaks -/
set_option maxRecDepth 100000
theorem hq_ex1 {f g : Nat → Int32} {b i j : Nat} (hj : j < 32) (h : ∀ y, y < 32 * i + j → f y = nI (hq_cn g b y 1)) : ∀ y, y < 32 * i + (j + 1) → upd f (i * 32 + j) (nI (hq_n (bt (g (b + i)) j))) y = nI (hq_cn g b y 1) := by
  intro y hy
  unfold upd
  by_cases e : y = i * 32 + j
  · rw [if_pos e]
    show _ = nI (0 + hq_n (bt (g (b + 0 * 4 + y / 32)) (y % 32)))
    rw [show b + 0 * 4 + y / 32 = b + i by omega, show y % 32 = j by omega, Nat.zero_add]
  · rw [if_neg e]
    exact h y (by omega)
theorem hq_ex2v {f g : Nat → Int32} {b i j k : Nat} (hj : j < 4) (hk : k < 32) (h : ∀ y, y < 128 → f y = nI (hq_cn g b y (if y < 32 * j + k then i + 1 else i))) : f (j * 32 + k) + nI (hq_n (bt (g (b + i * 4 + j)) k)) = nI (hq_cn g b (j * 32 + k) (i + 1)) := by
  rw [h (j * 32 + k) (by omega), if_neg (by omega), nI_add]
  show _ = nI (hq_cn g b (j * 32 + k) i + hq_n (bt (g (b + i * 4 + (j * 32 + k) / 32)) ((j * 32 + k) % 32)))
  rw [show (j * 32 + k) / 32 = j by omega, show (j * 32 + k) % 32 = k by omega]
theorem hq_ex2 {f g : Nat → Int32} {b i j k : Nat} (h : ∀ y, y < 128 → f y = nI (hq_cn g b y (if y < 32 * j + k then i + 1 else i))) : ∀ y, y < 128 → upd f (j * 32 + k) (nI (hq_cn g b (j * 32 + k) (i + 1))) y = nI (hq_cn g b y (if y < 32 * j + (k + 1) then i + 1 else i)) := by
  intro y hy
  unfold upd
  by_cases e : y = j * 32 + k
  · rw [if_pos e, if_pos (by omega), e]
  · rw [if_neg e, h y hy]
    by_cases e2 : y < 32 * j + k
    · rw [if_pos e2, if_pos (by omega)]
    · rw [if_neg e2, if_neg (by omega)]
set_option maxHeartbeats 4000000 in
set_option maxRecDepth 100000 in
theorem hq_exA2 {p : Program} {l : Launch} {e : Env} {R : Room} {s : State} {m : MethodId} {args : Array Value} {below : List Frame} {meth : Method} {c : Code} {cells slots : Nat} {Q : State → Prop} {D : va_G} {A : Nat → Prop} {H0 : Heap} {q0 q1 : Nat} {d0 d1 : ClassId} {g : Nat → Int32} {o i : Nat} (hx : p.tables.exec = Jvm.exec) (hb : c.code = cX2_expandThenSum) (ho : o ≤ 9) (hi : i < 4)
    (ex : ∀ (f : Nat → Int32), (∀ y, y < 32 * i + 32 → f y = nI (hq_cn g (o * 4) y 1)) → hq_At p l e R s m args below meth c cells slots Q D A H0 11 [(d0, .int), (d1, .int)] [(q0, .inl (d0, 128, .inl f)), (q1, .inl (d1, 48, .inl g))] [(8, .int (nI 32)), (7, .int (nI (i * 32))), (6, .int (g (o * 4 + i))), (5, .int (nI i)), (4, .int (nI (o * 4))), (0, .ref q0), (1, .ref q1), (2, .int (nI o)), (3, .int (nI 3))] 60) :
    ∀ (n j : Nat), j + n = 32 → ∀ (f : Nat → Int32), (∀ y, y < 32 * i + j → f y = nI (hq_cn g (o * 4) y 1)) → hq_At p l e R s m args below meth c cells slots Q D A H0 11 [(d0, .int), (d1, .int)] [(q0, .inl (d0, 128, .inl f)), (q1, .inl (d1, 48, .inl g))] [(8, .int (nI j)), (7, .int (nI (i * 32))), (6, .int (g (o * 4 + i))), (5, .int (nI i)), (4, .int (nI (o * 4))), (0, .ref q0), (1, .ref q1), (2, .int (nI o)), (3, .int (nI 3))] 33 := by
  intro n
  induction n with
  | zero =>
    intro j hn f hv H locs ls hK hP hD hS hl
    obtain rfl : j = 32 := by omega
    refine lv_iload hx hb dX2_expandThenSum_33 (lv_at hl 0 rfl) ?_
    refine lv_bipush (v := nI 32) hx hb dX2_expandThenSum_35 (by decide) ?_
    refine hq_geT (tgt := 60) hx hb dX2_expandThenSum_37 (by decide) (Nat.le_refl _) (by omega) ?_
    exact ex f hv _ _ _ hK hP hD hS hl
  | succ n ih =>
    intro j hn f hv H locs ls hK hP hD hS hl
    refine lv_iload hx hb dX2_expandThenSum_33 (lv_at hl 0 rfl) ?_
    refine lv_bipush (v := nI 32) hx hb dX2_expandThenSum_35 (by decide) ?_
    refine hq_geF (tgt := 60) hx hb dX2_expandThenSum_37 (by decide) (by omega) (by omega) ?_
    refine lv_aload_n hx hb dX2_expandThenSum_40 rfl (lv_at hl 5 rfl) ?_
    refine lv_iload hx hb dX2_expandThenSum_41 (lv_at hl 1 rfl) ?_
    refine lv_iload hx hb dX2_expandThenSum_43 (lv_at hl 0 rfl) ?_
    refine hq_add hx hb dX2_expandThenSum_45 ?_
    refine lv_iload hx hb dX2_expandThenSum_46 (lv_at hl 2 rfl) ?_
    refine lv_iload hx hb dX2_expandThenSum_48 (lv_at hl 0 rfl) ?_
    refine lv_ishr hx hb dX2_expandThenSum_50 ?_
    refine lv_iconst (v := nI 1) hx hb dX2_expandThenSum_51 (by decide) ?_
    refine lv_iand hx hb dX2_expandThenSum_52 ?_
    refine hq_ti (nI (hq_n (bt (g (o * 4 + i)) j))) (hq_shr1 _ (by omega)) ?_
    refine hq_si (ws' := [(q0, .inl (d0, 128, .inl (upd f ((i * 32) + j) (nI (hq_n (bt (g (o * 4 + i)) j)))))), (q1, .inl (d1, 48, .inl g))]) hx hb hK hP hD hS 0 0 rfl rfl (by omega) (by omega) rfl dX2_expandThenSum_53 (fun H locs hP hD hS => ?_)
    refine hq_inc (a := j) (d := 1) (lv' := [(8, .int (nI (j + 1))), (7, .int (nI (i * 32))), (6, .int (g (o * 4 + i))), (5, .int (nI i)), (4, .int (nI (o * 4))), (0, .ref q0), (1, .ref q1), (2, .int (nI o)), (3, .int (nI 3))]) hx hb dX2_expandThenSum_54 hl (k := 0) rfl (by decide) (by decide) rfl (fun ls hl => ?_)
    refine lv_goto (tgt := 33) hx hb dX2_expandThenSum_57 (by decide) ?_
    exact ih (j + 1) (by omega) _ (hq_ex1 (by omega) hv) _ _ _ hK hP hD hS hl
set_option maxHeartbeats 4000000 in
set_option maxRecDepth 100000 in
theorem hq_exA {p : Program} {l : Launch} {e : Env} {R : Room} {s : State} {m : MethodId} {args : Array Value} {below : List Frame} {meth : Method} {c : Code} {cells slots : Nat} {Q : State → Prop} {D : va_G} {A : Nat → Prop} {H0 : Heap} {q0 q1 : Nat} {d0 d1 : ClassId} {g : Nat → Int32} {o : Nat} (hx : p.tables.exec = Jvm.exec) (hb : c.code = cX2_expandThenSum) (ho : o ≤ 9)
    (ex : ∀ (f : Nat → Int32), (∀ y, y < 32 * 4 → f y = nI (hq_cn g (o * 4) y 1)) → hq_At p l e R s m args below meth c cells slots Q D A H0 11 [(d0, .int), (d1, .int)] [(q0, .inl (d0, 128, .inl f)), (q1, .inl (d1, 48, .inl g))] [(5, .int (nI 4)), (4, .int (nI (o * 4))), (0, .ref q0), (1, .ref q1), (2, .int (nI o)), (3, .int (nI 3))] 66) :
    ∀ (n i : Nat), i + n = 4 → ∀ (f : Nat → Int32), (∀ y, y < 32 * i → f y = nI (hq_cn g (o * 4) y 1)) → hq_At p l e R s m args below meth c cells slots Q D A H0 11 [(d0, .int), (d1, .int)] [(q0, .inl (d0, 128, .inl f)), (q1, .inl (d1, 48, .inl g))] [(5, .int (nI i)), (4, .int (nI (o * 4))), (0, .ref q0), (1, .ref q1), (2, .int (nI o)), (3, .int (nI 3))] 8 := by
  intro n
  induction n with
  | zero =>
    intro i hn f hv H locs ls hK hP hD hS hl
    obtain rfl : i = 4 := by omega
    refine lv_iload hx hb dX2_expandThenSum_8 (lv_at hl 0 rfl) ?_
    refine lv_iconst (v := nI 4) hx hb dX2_expandThenSum_10 (by decide) ?_
    refine hq_geT (tgt := 66) hx hb dX2_expandThenSum_11 (by decide) (Nat.le_refl _) (by omega) ?_
    exact ex f hv _ _ _ hK hP hD hS hl
  | succ n ih =>
    intro i hn f hv H locs ls hK hP hD hS hl
    refine lv_iload hx hb dX2_expandThenSum_8 (lv_at hl 0 rfl) ?_
    refine lv_iconst (v := nI 4) hx hb dX2_expandThenSum_10 (by decide) ?_
    refine hq_geF (tgt := 66) hx hb dX2_expandThenSum_11 (by decide) (by omega) (by omega) ?_
    refine lv_aload_n hx hb dX2_expandThenSum_14 rfl (lv_at hl 3 rfl) ?_
    refine lv_iload hx hb dX2_expandThenSum_15 (lv_at hl 1 rfl) ?_
    refine lv_iload hx hb dX2_expandThenSum_17 (lv_at hl 0 rfl) ?_
    refine hq_add hx hb dX2_expandThenSum_19 ?_
    refine hq_ri hx hb hK hP 1 1 rfl rfl (by omega) (by omega) dX2_expandThenSum_20 ?_
    refine lv_istore (lv' := [(6, .int (g ((o * 4) + i))), (5, .int (nI i)), (4, .int (nI (o * 4))), (0, .ref q0), (1, .ref q1), (2, .int (nI o)), (3, .int (nI 3))]) hx hb dX2_expandThenSum_21 hl (by decide) rfl (fun ls hl => ?_)
    refine lv_iload hx hb dX2_expandThenSum_23 (lv_at hl 1 rfl) ?_
    refine lv_bipush (v := nI 32) hx hb dX2_expandThenSum_25 (by decide) ?_
    refine hq_mul hx hb dX2_expandThenSum_27 ?_
    refine lv_istore (lv' := [(7, .int (nI (i * 32))), (6, .int (g ((o * 4) + i))), (5, .int (nI i)), (4, .int (nI (o * 4))), (0, .ref q0), (1, .ref q1), (2, .int (nI o)), (3, .int (nI 3))]) hx hb dX2_expandThenSum_28 hl (by decide) rfl (fun ls hl => ?_)
    refine lv_iconst (v := nI 0) hx hb dX2_expandThenSum_30 (by decide) ?_
    refine lv_istore (lv' := [(8, .int (nI 0)), (7, .int (nI (i * 32))), (6, .int (g ((o * 4) + i))), (5, .int (nI i)), (4, .int (nI (o * 4))), (0, .ref q0), (1, .ref q1), (2, .int (nI o)), (3, .int (nI 3))]) hx hb dX2_expandThenSum_31 hl (by decide) rfl (fun ls hl => ?_)
    refine hq_exA2 hx hb ho (show i < 4 by omega) (fun f hv H locs ls hK hP hD hS hl => ?_) 32 0 rfl f hv _ _ _ hK hP hD hS hl
    refine hq_inc (a := i) (d := 1) (lv' := [(5, .int (nI (i + 1))), (8, .int (nI 32)), (7, .int (nI (i * 32))), (6, .int (g (o * 4 + i))), (4, .int (nI (o * 4))), (0, .ref q0), (1, .ref q1), (2, .int (nI o)), (3, .int (nI 3))]) hx hb dX2_expandThenSum_60 hl (k := 3) rfl (by decide) (by decide) rfl (fun ls hl => ?_)
    refine lv_goto (tgt := 8) hx hb dX2_expandThenSum_63 (by decide) ?_
    exact ih (i + 1) (by omega) f hv _ _ _ hK hP hD hS (lv_sub hl [0, 4, 5, 6, 7, 8] rfl)
set_option maxHeartbeats 4000000 in
set_option maxRecDepth 100000 in
theorem hq_exB3 {p : Program} {l : Launch} {e : Env} {R : Room} {s : State} {m : MethodId} {args : Array Value} {below : List Frame} {meth : Method} {c : Code} {cells slots : Nat} {Q : State → Prop} {D : va_G} {A : Nat → Prop} {H0 : Heap} {q0 q1 : Nat} {d0 d1 : ClassId} {g : Nat → Int32} {o i j : Nat} (hx : p.tables.exec = Jvm.exec) (hb : c.code = cX2_expandThenSum) (ho : o ≤ 9) (hi : i < 3) (hj : j < 4)
    (ex : ∀ (f : Nat → Int32), (∀ y, y < 128 → f y = nI (hq_cn g (o * 4) y (if y < 32 * j + 32 then i + 1 else i))) → hq_At p l e R s m args below meth c cells slots Q D A H0 11 [(d0, .int), (d1, .int)] [(q0, .inl (d0, 128, .inl f)), (q1, .inl (d1, 48, .inl g))] [(10, .int (nI 32)), (9, .int (nI (j * 32))), (8, .int (g (((o * 4) + (i * 4)) + j))), (7, .int (nI j)), (6, .int (nI ((o * 4) + (i * 4)))), (5, .int (nI i)), (4, .int (nI (o * 4))), (0, .ref q0), (1, .ref q1), (2, .int (nI o)), (3, .int (nI 3))] 142) :
    ∀ (n k : Nat), k + n = 32 → ∀ (f : Nat → Int32), (∀ y, y < 128 → f y = nI (hq_cn g (o * 4) y (if y < 32 * j + k then i + 1 else i))) → hq_At p l e R s m args below meth c cells slots Q D A H0 11 [(d0, .int), (d1, .int)] [(q0, .inl (d0, 128, .inl f)), (q1, .inl (d1, 48, .inl g))] [(10, .int (nI k)), (9, .int (nI (j * 32))), (8, .int (g (((o * 4) + (i * 4)) + j))), (7, .int (nI j)), (6, .int (nI ((o * 4) + (i * 4)))), (5, .int (nI i)), (4, .int (nI (o * 4))), (0, .ref q0), (1, .ref q1), (2, .int (nI o)), (3, .int (nI 3))] 112 := by
  intro n
  induction n with
  | zero =>
    intro k hn f hv H locs ls hK hP hD hS hl
    obtain rfl : k = 32 := by omega
    refine lv_iload hx hb dX2_expandThenSum_112 (lv_at hl 0 rfl) ?_
    refine lv_bipush (v := nI 32) hx hb dX2_expandThenSum_114 (by decide) ?_
    refine hq_geT (tgt := 142) hx hb dX2_expandThenSum_116 (by decide) (Nat.le_refl _) (by omega) ?_
    exact ex f hv _ _ _ hK hP hD hS hl
  | succ n ih =>
    intro k hn f hv H locs ls hK hP hD hS hl
    refine lv_iload hx hb dX2_expandThenSum_112 (lv_at hl 0 rfl) ?_
    refine lv_bipush (v := nI 32) hx hb dX2_expandThenSum_114 (by decide) ?_
    refine hq_geF (tgt := 142) hx hb dX2_expandThenSum_116 (by decide) (by omega) (by omega) ?_
    refine lv_aload_n hx hb dX2_expandThenSum_119 rfl (lv_at hl 7 rfl) ?_
    refine lv_iload hx hb dX2_expandThenSum_120 (lv_at hl 1 rfl) ?_
    refine lv_iload hx hb dX2_expandThenSum_122 (lv_at hl 0 rfl) ?_
    refine hq_add hx hb dX2_expandThenSum_124 ?_
    refine lv_dup2_11 hx hb dX2_expandThenSum_125 rfl rfl ?_
    refine hq_ri hx hb hK hP 0 0 rfl rfl (by omega) (by omega) dX2_expandThenSum_126 ?_
    refine lv_iload hx hb dX2_expandThenSum_127 (lv_at hl 2 rfl) ?_
    refine lv_iload hx hb dX2_expandThenSum_129 (lv_at hl 0 rfl) ?_
    refine lv_ishr hx hb dX2_expandThenSum_131 ?_
    refine lv_iconst (v := nI 1) hx hb dX2_expandThenSum_132 (by decide) ?_
    refine lv_iand hx hb dX2_expandThenSum_133 ?_
    refine hq_ti (nI (hq_n (bt (g (((o * 4) + (i * 4)) + j)) k))) (hq_shr1 _ (by omega)) ?_
    refine lv_iadd hx hb dX2_expandThenSum_134 ?_
    refine hq_ti (nI (hq_cn g (o * 4) (j * 32 + k) (i + 1))) (hq_ex2v hj (by omega) hv) ?_
    refine hq_si (ws' := [(q0, .inl (d0, 128, .inl (upd f ((j * 32) + k) (nI (hq_cn g (o * 4) (j * 32 + k) (i + 1)))))), (q1, .inl (d1, 48, .inl g))]) hx hb hK hP hD hS 0 0 rfl rfl (by omega) (by omega) rfl dX2_expandThenSum_135 (fun H locs hP hD hS => ?_)
    refine hq_inc (a := k) (d := 1) (lv' := [(10, .int (nI (k + 1))), (9, .int (nI (j * 32))), (8, .int (g (((o * 4) + (i * 4)) + j))), (7, .int (nI j)), (6, .int (nI ((o * 4) + (i * 4)))), (5, .int (nI i)), (4, .int (nI (o * 4))), (0, .ref q0), (1, .ref q1), (2, .int (nI o)), (3, .int (nI 3))]) hx hb dX2_expandThenSum_136 hl (k := 0) rfl (by decide) (by decide) rfl (fun ls hl => ?_)
    refine lv_goto (tgt := 112) hx hb dX2_expandThenSum_139 (by decide) ?_
    exact ih (k + 1) (by omega) _ (hq_ex2 hv) _ _ _ hK hP hD hS hl
set_option maxHeartbeats 4000000 in
set_option maxRecDepth 100000 in
theorem hq_exB2 {p : Program} {l : Launch} {e : Env} {R : Room} {s : State} {m : MethodId} {args : Array Value} {below : List Frame} {meth : Method} {c : Code} {cells slots : Nat} {Q : State → Prop} {D : va_G} {A : Nat → Prop} {H0 : Heap} {q0 q1 : Nat} {d0 d1 : ClassId} {g : Nat → Int32} {o i : Nat} (hx : p.tables.exec = Jvm.exec) (hb : c.code = cX2_expandThenSum) (ho : o ≤ 9) (hi : i < 3)
    (ex : ∀ (f : Nat → Int32), (∀ y, y < 128 → f y = nI (hq_cn g (o * 4) y (if y < 32 * 4 + 0 then i + 1 else i))) → hq_At p l e R s m args below meth c cells slots Q D A H0 11 [(d0, .int), (d1, .int)] [(q0, .inl (d0, 128, .inl f)), (q1, .inl (d1, 48, .inl g))] [(7, .int (nI 4)), (6, .int (nI ((o * 4) + (i * 4)))), (5, .int (nI i)), (4, .int (nI (o * 4))), (0, .ref q0), (1, .ref q1), (2, .int (nI o)), (3, .int (nI 3))] 148) :
    ∀ (n j : Nat), j + n = 4 → ∀ (f : Nat → Int32), (∀ y, y < 128 → f y = nI (hq_cn g (o * 4) y (if y < 32 * j + 0 then i + 1 else i))) → hq_At p l e R s m args below meth c cells slots Q D A H0 11 [(d0, .int), (d1, .int)] [(q0, .inl (d0, 128, .inl f)), (q1, .inl (d1, 48, .inl g))] [(7, .int (nI j)), (6, .int (nI ((o * 4) + (i * 4)))), (5, .int (nI i)), (4, .int (nI (o * 4))), (0, .ref q0), (1, .ref q1), (2, .int (nI o)), (3, .int (nI 3))] 87 := by
  intro n
  induction n with
  | zero =>
    intro j hn f hv H locs ls hK hP hD hS hl
    obtain rfl : j = 4 := by omega
    refine lv_iload hx hb dX2_expandThenSum_87 (lv_at hl 0 rfl) ?_
    refine lv_iconst (v := nI 4) hx hb dX2_expandThenSum_89 (by decide) ?_
    refine hq_geT (tgt := 148) hx hb dX2_expandThenSum_90 (by decide) (Nat.le_refl _) (by omega) ?_
    exact ex f hv _ _ _ hK hP hD hS hl
  | succ n ih =>
    intro j hn f hv H locs ls hK hP hD hS hl
    refine lv_iload hx hb dX2_expandThenSum_87 (lv_at hl 0 rfl) ?_
    refine lv_iconst (v := nI 4) hx hb dX2_expandThenSum_89 (by decide) ?_
    refine hq_geF (tgt := 148) hx hb dX2_expandThenSum_90 (by decide) (by omega) (by omega) ?_
    refine lv_aload_n hx hb dX2_expandThenSum_93 rfl (lv_at hl 5 rfl) ?_
    refine lv_iload hx hb dX2_expandThenSum_94 (lv_at hl 1 rfl) ?_
    refine lv_iload hx hb dX2_expandThenSum_96 (lv_at hl 0 rfl) ?_
    refine hq_add hx hb dX2_expandThenSum_98 ?_
    refine hq_ri hx hb hK hP 1 1 rfl rfl (by omega) (by omega) dX2_expandThenSum_99 ?_
    refine lv_istore (lv' := [(8, .int (g (((o * 4) + (i * 4)) + j))), (7, .int (nI j)), (6, .int (nI ((o * 4) + (i * 4)))), (5, .int (nI i)), (4, .int (nI (o * 4))), (0, .ref q0), (1, .ref q1), (2, .int (nI o)), (3, .int (nI 3))]) hx hb dX2_expandThenSum_100 hl (by decide) rfl (fun ls hl => ?_)
    refine lv_iload hx hb dX2_expandThenSum_102 (lv_at hl 1 rfl) ?_
    refine lv_bipush (v := nI 32) hx hb dX2_expandThenSum_104 (by decide) ?_
    refine hq_mul hx hb dX2_expandThenSum_106 ?_
    refine lv_istore (lv' := [(9, .int (nI (j * 32))), (8, .int (g (((o * 4) + (i * 4)) + j))), (7, .int (nI j)), (6, .int (nI ((o * 4) + (i * 4)))), (5, .int (nI i)), (4, .int (nI (o * 4))), (0, .ref q0), (1, .ref q1), (2, .int (nI o)), (3, .int (nI 3))]) hx hb dX2_expandThenSum_107 hl (by decide) rfl (fun ls hl => ?_)
    refine lv_iconst (v := nI 0) hx hb dX2_expandThenSum_109 (by decide) ?_
    refine lv_istore (lv' := [(10, .int (nI 0)), (9, .int (nI (j * 32))), (8, .int (g (((o * 4) + (i * 4)) + j))), (7, .int (nI j)), (6, .int (nI ((o * 4) + (i * 4)))), (5, .int (nI i)), (4, .int (nI (o * 4))), (0, .ref q0), (1, .ref q1), (2, .int (nI o)), (3, .int (nI 3))]) hx hb dX2_expandThenSum_110 hl (by decide) rfl (fun ls hl => ?_)
    refine hq_exB3 hx hb ho hi (show j < 4 by omega) (fun f hv H locs ls hK hP hD hS hl => ?_) 32 0 rfl f hv _ _ _ hK hP hD hS hl
    refine hq_inc (a := j) (d := 1) (lv' := [(7, .int (nI (j + 1))), (10, .int (nI 32)), (9, .int (nI (j * 32))), (8, .int (g (((o * 4) + (i * 4)) + j))), (6, .int (nI ((o * 4) + (i * 4)))), (5, .int (nI i)), (4, .int (nI (o * 4))), (0, .ref q0), (1, .ref q1), (2, .int (nI o)), (3, .int (nI 3))]) hx hb dX2_expandThenSum_142 hl (k := 3) rfl (by decide) (by decide) rfl (fun ls hl => ?_)
    refine lv_goto (tgt := 87) hx hb dX2_expandThenSum_145 (by decide) ?_
    exact ih (j + 1) (by omega) f hv _ _ _ hK hP hD hS (lv_sub hl [0, 4, 5, 6, 7, 8, 9, 10] rfl)
set_option maxHeartbeats 4000000 in
set_option maxRecDepth 100000 in
theorem hq_exB {p : Program} {l : Launch} {e : Env} {R : Room} {s : State} {m : MethodId} {args : Array Value} {below : List Frame} {meth : Method} {c : Code} {cells slots : Nat} {Q : State → Prop} {D : va_G} {A : Nat → Prop} {H0 : Heap} {q0 q1 : Nat} {d0 d1 : ClassId} {g : Nat → Int32} {o : Nat} (hx : p.tables.exec = Jvm.exec) (hb : c.code = cX2_expandThenSum) (ho : o ≤ 9)
    (ex : ∀ (f : Nat → Int32), (∀ y, y < 128 → f y = nI (hq_cn g (o * 4) y 3)) → hq_At p l e R s m args below meth c cells slots Q D A H0 11 [(d0, .int), (d1, .int)] [(q0, .inl (d0, 128, .inl f)), (q1, .inl (d1, 48, .inl g))] [(5, .int (nI 3)), (4, .int (nI (o * 4))), (0, .ref q0), (1, .ref q1), (2, .int (nI o)), (3, .int (nI 3))] 154) :
    ∀ (n i : Nat), i + n = 3 → ∀ (f : Nat → Int32), (∀ y, y < 128 → f y = nI (hq_cn g (o * 4) y i)) → hq_At p l e R s m args below meth c cells slots Q D A H0 11 [(d0, .int), (d1, .int)] [(q0, .inl (d0, 128, .inl f)), (q1, .inl (d1, 48, .inl g))] [(5, .int (nI i)), (4, .int (nI (o * 4))), (0, .ref q0), (1, .ref q1), (2, .int (nI o)), (3, .int (nI 3))] 69 := by
  intro n
  induction n with
  | zero =>
    intro i hn f hv H locs ls hK hP hD hS hl
    obtain rfl : i = 3 := by omega
    refine lv_iload hx hb dX2_expandThenSum_69 (lv_at hl 0 rfl) ?_
    refine lv_iload_n hx hb dX2_expandThenSum_71 rfl (lv_at hl 5 rfl) ?_
    refine hq_geT (tgt := 154) hx hb dX2_expandThenSum_72 (by decide) (Nat.le_refl _) (by omega) ?_
    exact ex f hv _ _ _ hK hP hD hS hl
  | succ n ih =>
    intro i hn f hv H locs ls hK hP hD hS hl
    refine lv_iload hx hb dX2_expandThenSum_69 (lv_at hl 0 rfl) ?_
    refine lv_iload_n hx hb dX2_expandThenSum_71 rfl (lv_at hl 5 rfl) ?_
    refine hq_geF (tgt := 154) hx hb dX2_expandThenSum_72 (by decide) (by omega) (by omega) ?_
    refine lv_iload hx hb dX2_expandThenSum_75 (lv_at hl 1 rfl) ?_
    refine lv_iload hx hb dX2_expandThenSum_77 (lv_at hl 0 rfl) ?_
    refine lv_iconst (v := nI 4) hx hb dX2_expandThenSum_79 (by decide) ?_
    refine hq_mul hx hb dX2_expandThenSum_80 ?_
    refine hq_add hx hb dX2_expandThenSum_81 ?_
    refine lv_istore (lv' := [(6, .int (nI ((o * 4) + (i * 4)))), (5, .int (nI i)), (4, .int (nI (o * 4))), (0, .ref q0), (1, .ref q1), (2, .int (nI o)), (3, .int (nI 3))]) hx hb dX2_expandThenSum_82 hl (by decide) rfl (fun ls hl => ?_)
    refine lv_iconst (v := nI 0) hx hb dX2_expandThenSum_84 (by decide) ?_
    refine lv_istore (lv' := [(7, .int (nI 0)), (6, .int (nI ((o * 4) + (i * 4)))), (5, .int (nI i)), (4, .int (nI (o * 4))), (0, .ref q0), (1, .ref q1), (2, .int (nI o)), (3, .int (nI 3))]) hx hb dX2_expandThenSum_85 hl (by decide) rfl (fun ls hl => ?_)
    refine hq_exB2 hx hb ho (show i < 3 by omega) (fun f hv H locs ls hK hP hD hS hl => ?_) 4 0 rfl f (fun y hy => by rw [if_neg (by omega)]; exact hv y hy) _ _ _ hK hP hD hS hl
    refine hq_inc (a := i) (d := 1) (lv' := [(5, .int (nI (i + 1))), (7, .int (nI 4)), (6, .int (nI ((o * 4) + (i * 4)))), (4, .int (nI (o * 4))), (0, .ref q0), (1, .ref q1), (2, .int (nI o)), (3, .int (nI 3))]) hx hb dX2_expandThenSum_148 hl (k := 2) rfl (by decide) (by decide) rfl (fun ls hl => ?_)
    refine lv_goto (tgt := 69) hx hb dX2_expandThenSum_151 (by decide) ?_
    exact ih (i + 1) (by omega) f (fun y hy => by have e := hv y hy; rw [if_pos (by omega)] at e; exact e) _ _ _ hK hP hD hS (lv_sub hl [0, 3, 4, 5, 6, 7] rfl)
set_option maxHeartbeats 4000000 in
set_option maxRecDepth 100000 in
/-- expandThenSum: of each place, how many of the three words hold a bit there -/
theorem metX2_expand (l : Launch) (D : va_G) (q0 q1 : Nat) (d0 d1 : ClassId) (sz : Nat) (f g : Nat → Int32) (o : Nat) (ho : o ≤ 9) :
    hq_Mv (S := Nat → Int32) l yX2_expandThenSum cX2_expandThenSum 11 ({ frames := 0, cells := 0, slots := 0, locals := 0 }) D [.ref q0, .ref q1, .int (nI o), .int (nI 3)] sz [(q0, .inl (d0, 128, .inl f)), (q1, .inl (d1, 48, .inl g))] [(d0, .int), (d1, .int)] (fun f' => ∀ y, y < 128 → f' y = nI (hq_cn g (o * 4) y 3)) (fun f' => [(q0, .inl (d0, 128, .inl f')), (q1, .inl (d1, 48, .inl g))]) (fun _ => [(d0, .int), (d1, .int)]) := by
  refine hq_startV (by decide) (Nat.le_of_ble_eq_true rfl) ?_
  intro p e s m below meth c A ls hx hb hr hml hown hlocks hname hts hK hP hD hS hA hl
  have hown : s.vm.findClass RX2 = some m.cls := hown
  have hl : lv_has ls 11 [(0, .ref q0), (1, .ref q1), (2, .int (nI o)), (3, .int (nI 3))] := hl
  refine lv_iload_n hx hb dX2_expandThenSum_0 rfl (lv_at hl 2 rfl) ?_
  refine lv_iconst (v := nI 4) hx hb dX2_expandThenSum_1 (by decide) ?_
  refine hq_mul hx hb dX2_expandThenSum_2 ?_
  refine lv_istore (lv' := [(4, .int (nI (o * 4))), (0, .ref q0), (1, .ref q1), (2, .int (nI o)), (3, .int (nI 3))]) hx hb dX2_expandThenSum_3 hl (by decide) rfl (fun ls hl => ?_)
  refine lv_iconst (v := nI 0) hx hb dX2_expandThenSum_5 (by decide) ?_
  refine lv_istore (lv' := [(5, .int (nI 0)), (4, .int (nI (o * 4))), (0, .ref q0), (1, .ref q1), (2, .int (nI o)), (3, .int (nI 3))]) hx hb dX2_expandThenSum_6 hl (by decide) rfl (fun ls hl => ?_)
  refine hq_exA hx hb ho (fun f hv H locs ls hK hP hD hS hl => ?_) 4 0 rfl f (fun y hy => absurd hy (by omega)) _ _ _ hK hP hD hS hl
  refine lv_iconst (v := nI 1) hx hb dX2_expandThenSum_66 (by decide) ?_
  refine lv_istore (lv' := [(5, .int (nI 1)), (4, .int (nI (o * 4))), (0, .ref q0), (1, .ref q1), (2, .int (nI o)), (3, .int (nI 3))]) hx hb dX2_expandThenSum_67 hl (by decide) rfl (fun ls hl => ?_)
  refine hq_exB hx hb ho (fun f hv H locs ls hK hP hD hS hl => ?_) 2 1 rfl f (fun y hy => hv y (by omega)) _ _ _ hK hP hD hS hl
  exact hq_vret hx hb hr hlocks dX2_expandThenSum_154 hK hP hD hS f hv ⟨by decide, by decide⟩ [0, 1] rfl (by decide) [0, 1] rfl
theorem hq_hd_step {f g : Nat → Int32} {j : Nat} (hj : j < 64) (h : ∀ x, x < j → g x = hq_hs f x ∧ g (x + 64) = hq_hs f (x + 64)) : ∀ x, x < j + 1 → upd (upd g j (f (2 * j) + f (2 * j + 1))) (j + 64) (f (2 * j) - f (2 * j + 1)) x = hq_hs f x ∧ upd (upd g j (f (2 * j) + f (2 * j + 1))) (j + 64) (f (2 * j) - f (2 * j + 1)) (x + 64) = hq_hs f (x + 64) := by
  intro x hx
  unfold upd
  by_cases e : x = j
  · subst e
    constructor
    · rw [if_neg (by omega), if_pos rfl]
      unfold hq_hs
      rw [if_pos hj]
    · rw [if_pos rfl]
      unfold hq_hs
      rw [if_neg (by omega), Nat.add_sub_cancel]
  · have := h x (by omega)
    constructor
    · rw [if_neg (by omega), if_neg e]
      exact this.1
    · rw [if_neg (by omega), if_neg (by omega)]
      exact this.2
theorem hq_hd_all {f g : Nat → Int32} (h : ∀ x, x < 64 → g x = hq_hs f x ∧ g (x + 64) = hq_hs f (x + 64)) : ∀ k, k < 128 → g k = hq_hs f k := by
  intro k hk
  by_cases e : k < 64
  · exact (h k e).1
  · have := (h (k - 64) (by omega)).2
    rw [show k - 64 + 64 = k by omega] at this
    exact this
set_option maxHeartbeats 4000000 in
set_option maxRecDepth 100000 in
theorem hq_hdI {p : Program} {l : Launch} {e : Env} {R : Room} {s : State} {m : MethodId} {args : Array Value} {below : List Frame} {meth : Method} {c : Code} {cells slots : Nat} {Q : State → Prop} {D : va_G} {A : Nat → Prop} {H0 : Heap} {a0 a1 : Nat} {d0 d1 : ClassId} {f : Nat → Int32} {i : Nat} (hx : p.tables.exec = Jvm.exec) (hb : c.code = cX2_hadamardTransform) 
    (ex : ∀ (g : Nat → Int32), (∀ x, x < 64 → g x = hq_hs f x ∧ g (x + 64) = hq_hs f (x + 64)) → hq_At p l e R s m args below meth c cells slots Q D A H0 6 [(d0, .int), (d1, .int)] [(a0, .inl (d0, 128, .inl f)), (a1, .inl (d1, 128, .inl g))] [(3, .int (nI 64)), (2, .int (nI i)), (0, .ref a0), (1, .ref a1)] 57) :
    ∀ (n j : Nat), j + n = 64 → ∀ (g : Nat → Int32), (∀ x, x < j → g x = hq_hs f x ∧ g (x + 64) = hq_hs f (x + 64)) → hq_At p l e R s m args below meth c cells slots Q D A H0 6 [(d0, .int), (d1, .int)] [(a0, .inl (d0, 128, .inl f)), (a1, .inl (d1, 128, .inl g))] [(3, .int (nI j)), (2, .int (nI i)), (0, .ref a0), (1, .ref a1)] 10 := by
  intro n
  induction n with
  | zero =>
    intro j hn g hv H locs ls hK hP hD hS hl
    obtain rfl : j = 64 := by omega
    refine lv_iload_n hx hb dX2_hadamardTransform_10 rfl (lv_at hl 0 rfl) ?_
    refine lv_bipush (v := nI 64) hx hb dX2_hadamardTransform_11 (by decide) ?_
    refine hq_geT (tgt := 57) hx hb dX2_hadamardTransform_13 (by decide) (Nat.le_refl _) (by omega) ?_
    exact ex g hv _ _ _ hK hP hD hS hl
  | succ n ih =>
    intro j hn g hv H locs ls hK hP hD hS hl
    refine lv_iload_n hx hb dX2_hadamardTransform_10 rfl (lv_at hl 0 rfl) ?_
    refine lv_bipush (v := nI 64) hx hb dX2_hadamardTransform_11 (by decide) ?_
    refine hq_geF (tgt := 57) hx hb dX2_hadamardTransform_13 (by decide) (by omega) (by omega) ?_
    refine lv_aload_n hx hb dX2_hadamardTransform_16 rfl (lv_at hl 2 rfl) ?_
    refine lv_iconst (v := nI 2) hx hb dX2_hadamardTransform_17 (by decide) ?_
    refine lv_iload_n hx hb dX2_hadamardTransform_18 rfl (lv_at hl 0 rfl) ?_
    refine hq_mul hx hb dX2_hadamardTransform_19 ?_
    refine hq_ri hx hb hK hP 0 0 rfl rfl (by omega) (by omega) dX2_hadamardTransform_20 ?_
    refine lv_istore (lv' := [(4, .int (f (2 * j))), (3, .int (nI j)), (2, .int (nI i)), (0, .ref a0), (1, .ref a1)]) hx hb dX2_hadamardTransform_21 hl (by decide) rfl (fun ls hl => ?_)
    refine lv_aload_n hx hb dX2_hadamardTransform_23 rfl (lv_at hl 3 rfl) ?_
    refine lv_iconst (v := nI 2) hx hb dX2_hadamardTransform_24 (by decide) ?_
    refine lv_iload_n hx hb dX2_hadamardTransform_25 rfl (lv_at hl 1 rfl) ?_
    refine hq_mul hx hb dX2_hadamardTransform_26 ?_
    refine lv_iconst (v := nI 1) hx hb dX2_hadamardTransform_27 (by decide) ?_
    refine hq_add hx hb dX2_hadamardTransform_28 ?_
    refine hq_ri hx hb hK hP 0 0 rfl rfl (by omega) (by omega) dX2_hadamardTransform_29 ?_
    refine lv_istore (lv' := [(5, .int (f ((2 * j) + 1))), (4, .int (f (2 * j))), (3, .int (nI j)), (2, .int (nI i)), (0, .ref a0), (1, .ref a1)]) hx hb dX2_hadamardTransform_30 hl (by decide) rfl (fun ls hl => ?_)
    refine lv_aload_n hx hb dX2_hadamardTransform_32 rfl (lv_at hl 5 rfl) ?_
    refine lv_iload_n hx hb dX2_hadamardTransform_33 rfl (lv_at hl 2 rfl) ?_
    refine lv_iload hx hb dX2_hadamardTransform_34 (lv_at hl 1 rfl) ?_
    refine lv_iload hx hb dX2_hadamardTransform_36 (lv_at hl 0 rfl) ?_
    refine lv_iadd hx hb dX2_hadamardTransform_38 ?_
    refine hq_si (ws' := [(a0, .inl (d0, 128, .inl f)), (a1, .inl (d1, 128, .inl (upd g j ((f (2 * j)) + (f ((2 * j) + 1))))))]) hx hb hK hP hD hS 1 1 rfl rfl (by omega) (by omega) rfl dX2_hadamardTransform_39 (fun H locs hP hD hS => ?_)
    refine lv_aload_n hx hb dX2_hadamardTransform_40 rfl (lv_at hl 5 rfl) ?_
    refine lv_iload_n hx hb dX2_hadamardTransform_41 rfl (lv_at hl 2 rfl) ?_
    refine lv_bipush (v := nI 64) hx hb dX2_hadamardTransform_42 (by decide) ?_
    refine hq_add hx hb dX2_hadamardTransform_44 ?_
    refine lv_iload hx hb dX2_hadamardTransform_45 (lv_at hl 1 rfl) ?_
    refine lv_iload hx hb dX2_hadamardTransform_47 (lv_at hl 0 rfl) ?_
    refine lv_isub hx hb dX2_hadamardTransform_49 ?_
    refine hq_si (ws' := [(a0, .inl (d0, 128, .inl f)), (a1, .inl (d1, 128, .inl (upd (upd g j ((f (2 * j)) + (f ((2 * j) + 1)))) (j + 64) ((f (2 * j)) - (f ((2 * j) + 1))))))]) hx hb hK hP hD hS 1 1 rfl rfl (by omega) (by omega) rfl dX2_hadamardTransform_50 (fun H locs hP hD hS => ?_)
    refine hq_inc (a := j) (d := 1) (lv' := [(3, .int (nI (j + 1))), (5, .int (f ((2 * j) + 1))), (4, .int (f (2 * j))), (2, .int (nI i)), (0, .ref a0), (1, .ref a1)]) hx hb dX2_hadamardTransform_51 hl (k := 2) rfl (by decide) (by decide) rfl (fun ls hl => ?_)
    refine lv_goto (tgt := 10) hx hb dX2_hadamardTransform_54 (by decide) ?_
    exact ih (j + 1) (by omega) _ (hq_hd_step (by omega) hv) _ _ _ hK hP hD hS (lv_sub hl [0, 3, 4, 5] rfl)
set_option maxHeartbeats 4000000 in
set_option maxRecDepth 100000 in
theorem hq_hdO {p : Program} {l : Launch} {e : Env} {R : Room} {s : State} {m : MethodId} {args : Array Value} {below : List Frame} {meth : Method} {c : Code} {cells slots : Nat} {Q : State → Prop} {D : va_G} {A : Nat → Prop} {H0 : Heap} {q0 q1 : Nat} {c0 c1 : ClassId} {F : Nat → Int} (hx : p.tables.exec = Jvm.exec) (hb : c.code = cX2_hadamardTransform)
    (ex : ∀ (a0 a1 : Nat) (d0 d1 : ClassId) (f g : Nat → Int32), a0 = q1 ∧ a1 = q0 ∧ d0 = c1 ∧ d1 = c0 → (∀ k, k < 128 → f k = hq_iz (hq_tr 7 F k)) → hq_At p l e R s m args below meth c cells slots Q D A H0 6 [(d0, .int), (d1, .int)] [(a0, .inl (d0, 128, .inl f)), (a1, .inl (d1, 128, .inl g))] [(2, .int (nI 7)), (0, .ref a0), (1, .ref a1)] 69) :
    ∀ (n i : Nat), i + n = 7 → ∀ (a0 a1 : Nat) (d0 d1 : ClassId) (f g : Nat → Int32), (i % 2 = 0 ∧ a0 = q0 ∧ a1 = q1 ∧ d0 = c0 ∧ d1 = c1) ∨ (i % 2 = 1 ∧ a0 = q1 ∧ a1 = q0 ∧ d0 = c1 ∧ d1 = c0) → (∀ k, k < 128 → f k = hq_iz (hq_tr i F k)) → hq_At p l e R s m args below meth c cells slots Q D A H0 6 [(d0, .int), (d1, .int)] [(a0, .inl (d0, 128, .inl f)), (a1, .inl (d1, 128, .inl g))] [(2, .int (nI i)), (0, .ref a0), (1, .ref a1)] 2 := by
  intro n
  induction n with
  | zero =>
    intro i hn a0 a1 d0 d1 f g hpar hf H locs ls hK hP hD hS hl
    obtain rfl : i = 7 := by omega
    have hpar : a0 = q1 ∧ a1 = q0 ∧ d0 = c1 ∧ d1 = c0 := by
      rcases hpar with h | h
      · exact absurd h.1 (by decide)
      · exact h.2
    refine lv_iload_n hx hb dX2_hadamardTransform_2 rfl (lv_at hl 0 rfl) ?_
    refine lv_bipush (v := nI 7) hx hb dX2_hadamardTransform_3 (by decide) ?_
    refine hq_geT (tgt := 69) hx hb dX2_hadamardTransform_5 (by decide) (Nat.le_refl _) (by omega) ?_
    exact ex a0 a1 d0 d1 f g hpar hf _ _ _ hK hP hD hS hl
  | succ n ih =>
    intro i hn a0 a1 d0 d1 f g hpar hf H locs ls hK hP hD hS hl
    refine lv_iload_n hx hb dX2_hadamardTransform_2 rfl (lv_at hl 0 rfl) ?_
    refine lv_bipush (v := nI 7) hx hb dX2_hadamardTransform_3 (by decide) ?_
    refine hq_geF (tgt := 69) hx hb dX2_hadamardTransform_5 (by decide) (by omega) (by omega) ?_
    refine lv_iconst (v := nI 0) hx hb dX2_hadamardTransform_8 (by decide) ?_
    refine lv_istore_n (lv' := [(3, .int (nI 0)), (2, .int (nI i)), (0, .ref a0), (1, .ref a1)]) hx hb dX2_hadamardTransform_9 rfl hl (by decide) rfl (fun ls hl => ?_)
    refine hq_hdI hx hb (fun g hg H locs ls hK hP hD hS hl => ?_) 64 0 rfl g (fun x hz => absurd hz (by omega)) _ _ _ hK hP hD hS hl
    refine lv_aload_n hx hb dX2_hadamardTransform_57 rfl (lv_at hl 2 rfl) ?_
    refine lv_astore_n (lv' := [(3, .ref a0), (2, .int (nI i)), (0, .ref a0), (1, .ref a1)]) hx hb dX2_hadamardTransform_58 rfl hl (by decide) rfl (fun ls hl => ?_)
    refine lv_aload_n hx hb dX2_hadamardTransform_59 rfl (lv_at hl 3 rfl) ?_
    refine lv_astore_n (lv' := [(0, .ref a1), (3, .ref a0), (2, .int (nI i)), (1, .ref a1)]) hx hb dX2_hadamardTransform_60 rfl hl (by decide) rfl (fun ls hl => ?_)
    refine lv_aload_n hx hb dX2_hadamardTransform_61 rfl (lv_at hl 1 rfl) ?_
    refine lv_astore_n (lv' := [(1, .ref a0), (0, .ref a1), (3, .ref a0), (2, .int (nI i))]) hx hb dX2_hadamardTransform_62 rfl hl (by decide) rfl (fun ls hl => ?_)
    refine hq_inc (a := i) (d := 1) (lv' := [(2, .int (nI (i + 1))), (1, .ref a0), (0, .ref a1), (3, .ref a0)]) hx hb dX2_hadamardTransform_63 hl (k := 3) rfl (by decide) (by decide) rfl (fun ls hl => ?_)
    refine lv_goto (tgt := 2) hx hb dX2_hadamardTransform_66 (by decide) ?_
    exact ih (i + 1) (by omega) a1 a0 d1 d0 g f (hpar.elim (fun h => Or.inr ⟨by omega, h.2.2.1, h.2.1, h.2.2.2.2, h.2.2.2.1⟩) (fun h => Or.inl ⟨by omega, h.2.2.1, h.2.1, h.2.2.2.2, h.2.2.2.1⟩)) (fun k hk => (hq_hd_all hg k hk).trans (hq_hs_st hf k hk)) _ _ _ (hK.sub [1, 0] rfl) (hP.sub [1, 0] rfl) (hD.sub [1, 0] (by decide) rfl) hS (lv_sub hl [0, 2, 1] rfl)
set_option maxHeartbeats 4000000 in
set_option maxRecDepth 100000 in
/-- hadamardTransform: seven rounds; the second array holds what comes -/
theorem metX2_hadamard (l : Launch) (D : va_G) (q0 q1 : Nat) (c0 c1 : ClassId) (sz : Nat) (f g : Nat → Int32) (F : Nat → Int) (hF : ∀ k, k < 128 → f k = hq_iz (F k)) :
    hq_Mv (S := (Nat → Int32) × (Nat → Int32)) l yX2_hadamardTransform cX2_hadamardTransform 6 ({ frames := 0, cells := 0, slots := 0, locals := 0 }) D [.ref q0, .ref q1] sz [(q0, .inl (c0, 128, .inl f)), (q1, .inl (c1, 128, .inl g))] [(c0, .int), (c1, .int)] (fun u => ∀ k, k < 128 → u.2 k = hq_iz (hq_tr 7 F k)) (fun u => [(q0, .inl (c0, 128, .inl u.1)), (q1, .inl (c1, 128, .inl u.2))]) (fun _ => [(c0, .int), (c1, .int)]) := by
  refine hq_startV (by decide) (Nat.le_of_ble_eq_true rfl) ?_
  intro p e s m below meth c A ls hx hb hr hml hown hlocks hname hts hK hP hD hS hA hl
  have hown : s.vm.findClass RX2 = some m.cls := hown
  have hl : lv_has ls 6 [(0, .ref q0), (1, .ref q1)] := hl
  refine lv_iconst (v := nI 0) hx hb dX2_hadamardTransform_0 (by decide) ?_
  refine lv_istore_n (lv' := [(2, .int (nI 0)), (0, .ref q0), (1, .ref q1)]) hx hb dX2_hadamardTransform_1 rfl hl (by decide) rfl (fun ls hl => ?_)
  refine hq_hdO (q0 := q0) (q1 := q1) (c0 := c0) (c1 := c1) (F := F) hx hb (fun a0 a1 d0 d1 f g hpar hf H locs ls hK hP hD hS hl => ?_) 7 0 rfl q0 q1 c0 c1 f g (Or.inl ⟨rfl, rfl, rfl, rfl, rfl⟩) hF _ _ _ hK hP hD hS hl
  obtain ⟨h1, h2, h3, h4⟩ := hpar
  rw [h1, h2, h3, h4] at hP hD
  rw [h3, h4] at hK
  exact hq_vret hx hb hr hlocks dX2_hadamardTransform_69 hK hP hD hS (g, f) hf ⟨by decide, by decide⟩ [1, 0] rfl (by decide) [1, 0] rfl
theorem hq_max {a b : Nat} (h : b ≤ a) (ha : a < 1000) : (if nI b < nI a then nI a else nI b) = nI a := by
  by_cases e : b = a
  · rw [e]
    exact if_neg (nI_nlt (Nat.le_refl _) (by omega))
  · exact if_pos (nI_lt (by omega) (by omega))
set_option maxHeartbeats 4000000 in
set_option maxRecDepth 100000 in
theorem hq_fp2 {p : Program} {l : Launch} {e : Env} {R : Room} {s : State} {m : MethodId} {args : Array Value} {below : List Frame} {meth : Method} {c : Code} {cells slots : Nat} {Q : State → Prop} {D : va_G} {A : Nat → Prop} {H0 : Heap} {q : Nat} {dI : ClassId} {f : Nat → Int32} {a b pp i : Nat} {t x2 : Int32} (hx : p.tables.exec = Jvm.exec) (hb : c.code = cX2_findPeaks) (hml : c.maxLocals = 8) (hown : s.vm.findClass RX2 = some m.cls) (hts : ∀ w ∈ lw_all, w.before args s = true) (hA : ∀ q : Nat, H0.size ≤ q → A q) (hRf : 1 ≤ R.frames) (hRl : 13 ≤ R.locals) (hRc : cells ≤ R.cells) (hRs : slots ≤ R.slots) (ha : a < 1000) (hbb : b < 1000)
    (exT : a < b → hq_At p l e R s m args below meth c cells slots Q D A H0 8 [(dI, .int)] [(q, .inl (dI, 128, .inl f))] [(4, .int (nI (i + 1))), (3, .int (nI i)), (2, .int t), (1, .int (nI b)), (0, .ref q)] 9) (exF : b ≤ a → hq_At p l e R s m args below meth c cells slots Q D A H0 8 [(dI, .int)] [(q, .inl (dI, 128, .inl f))] [(4, .int (nI (i + 1))), (3, .int (nI pp)), (2, .int x2), (1, .int (nI a)), (0, .ref q)] 9) : hq_At p l e R s m args below meth c cells slots Q D A H0 8 [(dI, .int)] [(q, .inl (dI, 128, .inl f))] [(7, .int (nI b)), (5, .int t), (4, .int (nI i)), (3, .int (nI pp)), (2, .int x2), (1, .int (nI a)), (0, .ref q)] 51 := by
  intro H locs ls hK hP hD hS hl
  by_cases hab : a < b
  · refine lv_iload hx hb dX2_findPeaks_51 (lv_at hl 0 rfl) ?_
    refine lv_iload_n hx hb dX2_findPeaks_53 rfl (lv_at hl 5 rfl) ?_
    refine lv_icmp_le (tgt := 62) hx hb dX2_findPeaks_54 (by decide) (fun hz => absurd hz (nI_ge hab (by omega))) (fun _ => ?_)
    refine lv_iload hx hb dX2_findPeaks_57 (lv_at hl 1 rfl) ?_
    refine lv_goto (tgt := 63) hx hb dX2_findPeaks_59 (by decide) ?_
    refine lv_istore_n (lv' := [(2, .int t), (7, .int (nI b)), (5, .int t), (4, .int (nI i)), (3, .int (nI pp)), (1, .int (nI a)), (0, .ref q)]) hx hb dX2_findPeaks_63 rfl hl (by decide) rfl (fun ls hl => ?_)
    refine lv_iload hx hb dX2_findPeaks_64 (lv_at hl 1 rfl) ?_
    refine lv_iload_n hx hb dX2_findPeaks_66 rfl (lv_at hl 5 rfl) ?_
    refine lv_icmp_le (tgt := 75) hx hb dX2_findPeaks_67 (by decide) (fun hz => absurd hz (nI_ge hab (by omega))) (fun _ => ?_)
    refine lv_iload hx hb dX2_findPeaks_70 (lv_at hl 3 rfl) ?_
    refine lv_goto (tgt := 76) hx hb dX2_findPeaks_72 (by decide) ?_
    refine lv_istore_n (lv' := [(3, .int (nI i)), (2, .int t), (7, .int (nI b)), (5, .int t), (4, .int (nI i)), (1, .int (nI a)), (0, .ref q)]) hx hb dX2_findPeaks_76 rfl hl (by decide) rfl (fun ls hl => ?_)
    refine lv_iload hx hb dX2_findPeaks_77 (lv_at hl 2 rfl) ?_
    refine lv_iload_n hx hb dX2_findPeaks_79 rfl (lv_at hl 5 rfl) ?_
    refine va_mmax hx hb (by rw [hml]; exact hl.1.symm) hown (hts _ q82) (hts _ q83) (hts _ q6) (hts _ q84) hRf (Nat.le_trans (Nat.le_of_ble_eq_true rfl) hRl) hRc hRs dX2_findPeaks_80 ?_
    refine hq_ti (nI b) (if_neg (nI_nlt (Nat.le_of_lt hab) (by omega))) ?_
    refine lv_istore_n (lv' := [(1, .int (nI b)), (3, .int (nI i)), (2, .int t), (7, .int (nI b)), (5, .int t), (4, .int (nI i)), (0, .ref q)]) hx hb dX2_findPeaks_83 rfl hl (by decide) rfl (fun ls hl => ?_)
    refine hq_inc (a := i) (d := 1) (lv' := [(4, .int (nI (i + 1))), (1, .int (nI b)), (3, .int (nI i)), (2, .int t), (7, .int (nI b)), (5, .int t), (0, .ref q)]) hx hb dX2_findPeaks_84 hl (k := 5) rfl (by decide) (by decide) rfl (fun ls hl => ?_)
    refine lv_goto (tgt := 9) hx hb dX2_findPeaks_87 (by decide) ?_
    exact exT hab _ _ _ hK hP hD hS (lv_sub hl [0, 2, 3, 1, 6] rfl)
  · refine lv_iload hx hb dX2_findPeaks_51 (lv_at hl 0 rfl) ?_
    refine lv_iload_n hx hb dX2_findPeaks_53 rfl (lv_at hl 5 rfl) ?_
    refine lv_icmp_le (tgt := 62) hx hb dX2_findPeaks_54 (by decide) (fun _ => ?_) (fun hz => absurd (nI_le (Nat.le_of_not_lt hab) (by omega)) hz)
    refine lv_iload_n hx hb dX2_findPeaks_62 rfl (lv_at hl 4 rfl) ?_
    refine lv_istore_n (lv' := [(2, .int x2), (7, .int (nI b)), (5, .int t), (4, .int (nI i)), (3, .int (nI pp)), (1, .int (nI a)), (0, .ref q)]) hx hb dX2_findPeaks_63 rfl hl (by decide) rfl (fun ls hl => ?_)
    refine lv_iload hx hb dX2_findPeaks_64 (lv_at hl 1 rfl) ?_
    refine lv_iload_n hx hb dX2_findPeaks_66 rfl (lv_at hl 5 rfl) ?_
    refine lv_icmp_le (tgt := 75) hx hb dX2_findPeaks_67 (by decide) (fun _ => ?_) (fun hz => absurd (nI_le (Nat.le_of_not_lt hab) (by omega)) hz)
    refine lv_iload_n hx hb dX2_findPeaks_75 rfl (lv_at hl 4 rfl) ?_
    refine lv_istore_n (lv' := [(3, .int (nI pp)), (2, .int x2), (7, .int (nI b)), (5, .int t), (4, .int (nI i)), (1, .int (nI a)), (0, .ref q)]) hx hb dX2_findPeaks_76 rfl hl (by decide) rfl (fun ls hl => ?_)
    refine lv_iload hx hb dX2_findPeaks_77 (lv_at hl 2 rfl) ?_
    refine lv_iload_n hx hb dX2_findPeaks_79 rfl (lv_at hl 5 rfl) ?_
    refine va_mmax hx hb (by rw [hml]; exact hl.1.symm) hown (hts _ q82) (hts _ q83) (hts _ q6) (hts _ q84) hRf (Nat.le_trans (Nat.le_of_ble_eq_true rfl) hRl) hRc hRs dX2_findPeaks_80 ?_
    refine hq_ti (nI a) (hq_max (Nat.le_of_not_lt hab) ha) ?_
    refine lv_istore_n (lv' := [(1, .int (nI a)), (3, .int (nI pp)), (2, .int x2), (7, .int (nI b)), (5, .int t), (4, .int (nI i)), (0, .ref q)]) hx hb dX2_findPeaks_83 rfl hl (by decide) rfl (fun ls hl => ?_)
    refine hq_inc (a := i) (d := 1) (lv' := [(4, .int (nI (i + 1))), (1, .int (nI a)), (3, .int (nI pp)), (2, .int x2), (7, .int (nI b)), (5, .int t), (0, .ref q)]) hx hb dX2_findPeaks_84 hl (k := 5) rfl (by decide) (by decide) rfl (fun ls hl => ?_)
    refine lv_goto (tgt := 9) hx hb dX2_findPeaks_87 (by decide) ?_
    exact exF (Nat.le_of_not_lt hab) _ _ _ hK hP hD hS (lv_sub hl [0, 2, 3, 1, 6] rfl)
def hq_fpI (T : Nat → Int) (k0 i a pp : Nat) (x2 : Int32) : Prop := a < 1000 ∧ (k0 < i → a = (T k0).natAbs ∧ x2 = hq_iz (T k0) ∧ pp = k0) ∧ (i ≤ k0 → a < (T k0).natAbs)
theorem hq_fpT {T : Nat → Int} {k0 i a pp : Nat} {x2 : Int32} (hi : i < 128) (hB : ∀ k, k < 128 → (T k).natAbs ≤ 192) (hpk : ∀ k, k < 128 → k ≠ k0 → (T k).natAbs < (T k0).natAbs) (h : hq_fpI T k0 i a pp x2) (hab : a < (T i).natAbs) : hq_fpI T k0 (i + 1) (T i).natAbs i (hq_iz (T i)) := by
  refine ⟨by have := hB i hi; omega, fun hk => ?_, fun hk => hpk i hi (by omega)⟩
  by_cases e : i = k0
  · subst e
    exact ⟨rfl, rfl, rfl⟩
  · have h1 := h.2.1 (by omega)
    have h2 := hpk i hi e
    omega
theorem hq_fpF {T : Nat → Int} {k0 i a pp : Nat} {x2 : Int32} (hi : i < 128) (h : hq_fpI T k0 i a pp x2) (hab : (T i).natAbs ≤ a) : hq_fpI T k0 (i + 1) a pp x2 := by
  refine ⟨h.1, fun hk => ?_, fun hk => h.2.2 (by omega)⟩
  by_cases e : i = k0
  · subst e
    have := h.2.2 (Nat.le_refl _)
    omega
  · exact h.2.1 (by omega)
theorem hq_izle {z : Int} (h : z.natAbs ≤ 192) : hq_iz z ≤ 0 ↔ z ≤ 0 := by
  rw [Int32.le_iff_toInt_le, hq_iz_t (by omega), Int32.toInt_zero]
theorem hq_izabsN {z : Int} (h : z ≤ 0) : ((nI 0 &&& hq_iz z) ||| ((nI 0 ^^^ (-1)) &&& (-hq_iz z))) = nI z.natAbs := by
  rw [hq_absN, hq_iz_neg, ← hq_iz_n]
  congr 1
  omega
theorem hq_izabsP {z : Int} (h : ¬ z ≤ 0) : (((-1) &&& hq_iz z) ||| (((-1) ^^^ (-1)) &&& (-hq_iz z))) = nI z.natAbs := by
  rw [hq_absP, ← hq_iz_n]
  congr 1
  omega
set_option maxHeartbeats 4000000 in
set_option maxRecDepth 100000 in
theorem hq_fpL {p : Program} {l : Launch} {e : Env} {R : Room} {s : State} {m : MethodId} {args : Array Value} {below : List Frame} {meth : Method} {c : Code} {cells slots : Nat} {Q : State → Prop} {D : va_G} {A : Nat → Prop} {H0 : Heap} {q : Nat} {dI : ClassId} {f : Nat → Int32} {T : Nat → Int} {k0 : Nat} (hx : p.tables.exec = Jvm.exec) (hb : c.code = cX2_findPeaks) (hml : c.maxLocals = 8) (hown : s.vm.findClass RX2 = some m.cls) (hts : ∀ w ∈ lw_all, w.before args s = true) (hA : ∀ q : Nat, H0.size ≤ q → A q) (hRf : 1 ≤ R.frames) (hRl : 13 ≤ R.locals) (hRc : cells ≤ R.cells) (hRs : slots ≤ R.slots) (hT : ∀ k, k < 128 → f k = hq_iz (T k)) (hB : ∀ k, k < 128 → (T k).natAbs ≤ 192) (hpk : ∀ k, k < 128 → k ≠ k0 → (T k).natAbs < (T k0).natAbs)
    (ex : ∀ (a pp : Nat) (x2 : Int32), hq_fpI T k0 128 a pp x2 → hq_At p l e R s m args below meth c cells slots Q D A H0 8 [(dI, .int)] [(q, .inl (dI, 128, .inl f))] [(4, .int (nI 128)), (3, .int (nI pp)), (2, .int x2), (1, .int (nI a)), (0, .ref q)] 90) :
    ∀ (n i : Nat), i + n = 128 → ∀ (a pp : Nat) (x2 : Int32), hq_fpI T k0 i a pp x2 → hq_At p l e R s m args below meth c cells slots Q D A H0 8 [(dI, .int)] [(q, .inl (dI, 128, .inl f))] [(4, .int (nI i)), (3, .int (nI pp)), (2, .int x2), (1, .int (nI a)), (0, .ref q)] 9 := by
  intro n
  induction n with
  | zero =>
    intro i hn a pp x2 hv H locs ls hK hP hD hS hl
    obtain rfl : i = 128 := by omega
    refine lv_iload hx hb dX2_findPeaks_9 (lv_at hl 0 rfl) ?_
    refine lv_sipush (v := nI 128) hx hb dX2_findPeaks_11 (by decide) ?_
    refine hq_geT (tgt := 90) hx hb dX2_findPeaks_14 (by decide) (Nat.le_refl _) (by omega) ?_
    exact ex a pp x2 hv _ _ _ hK hP hD hS hl
  | succ n ih =>
    intro i hn a pp x2 hv H locs ls hK hP hD hS hl
    refine lv_iload hx hb dX2_findPeaks_9 (lv_at hl 0 rfl) ?_
    refine lv_sipush (v := nI 128) hx hb dX2_findPeaks_11 (by decide) ?_
    refine hq_geF (tgt := 90) hx hb dX2_findPeaks_14 (by decide) (by omega) (by omega) ?_
    refine lv_aload_n hx hb dX2_findPeaks_17 rfl (lv_at hl 4 rfl) ?_
    refine lv_iload hx hb dX2_findPeaks_18 (lv_at hl 0 rfl) ?_
    refine hq_ri hx hb hK hP 0 0 rfl rfl (by omega) (by omega) dX2_findPeaks_20 ?_
    refine hq_ti (hq_iz (T i)) (hT i (by omega)) ?_
    refine lv_istore (lv' := [(5, .int (hq_iz (T i))), (4, .int (nI i)), (3, .int (nI pp)), (2, .int x2), (1, .int (nI a)), (0, .ref q)]) hx hb dX2_findPeaks_21 hl (by decide) rfl (fun ls hl => ?_)
    refine lv_iload hx hb dX2_findPeaks_23 (lv_at hl 0 rfl) ?_
    refine lv_if_le (tgt := 32) hx hb dX2_findPeaks_25 (by decide) (fun hz => ?_) (fun hz => ?_)
    · have hz := (hq_izle (hB i (by omega))).mp hz
      refine lv_iconst (v := nI 0) hx hb dX2_findPeaks_32 (by decide) ?_
      refine lv_istore (lv' := [(6, .int (nI 0)), (5, .int (hq_iz (T i))), (4, .int (nI i)), (3, .int (nI pp)), (2, .int x2), (1, .int (nI a)), (0, .ref q)]) hx hb dX2_findPeaks_33 hl (by decide) rfl (fun ls hl => ?_)
      refine lv_iload hx hb dX2_findPeaks_35 (lv_at hl 0 rfl) ?_
      refine lv_iload hx hb dX2_findPeaks_37 (lv_at hl 1 rfl) ?_
      refine lv_iand hx hb dX2_findPeaks_39 ?_
      refine lv_iload hx hb dX2_findPeaks_40 (lv_at hl 0 rfl) ?_
      refine lv_iconst (v := -1) hx hb dX2_findPeaks_42 (by decide) ?_
      refine lv_ixor hx hb dX2_findPeaks_43 ?_
      refine lv_iload hx hb dX2_findPeaks_44 (lv_at hl 1 rfl) ?_
      refine lv_ineg hx hb dX2_findPeaks_46 ?_
      refine lv_iand hx hb dX2_findPeaks_47 ?_
      refine lv_ior hx hb dX2_findPeaks_48 ?_
      refine hq_ti (nI ((T i).natAbs)) (hq_izabsN hz) ?_
      refine lv_istore (lv' := [(7, .int (nI ((T i).natAbs))), (6, .int (nI 0)), (5, .int (hq_iz (T i))), (4, .int (nI i)), (3, .int (nI pp)), (2, .int x2), (1, .int (nI a)), (0, .ref q)]) hx hb dX2_findPeaks_49 hl (by decide) rfl (fun ls hl => ?_)
      exact hq_fp2 hx hb hml hown hts hA hRf hRl hRc hRs hv.1 (by have := hB i (by omega); omega) (fun hab => ih (i + 1) (by omega) _ _ _ (hq_fpT (by omega) hB hpk hv hab)) (fun hab => ih (i + 1) (by omega) _ _ _ (hq_fpF (by omega) hv hab)) _ _ _ hK hP hD hS (lv_sub hl [0, 2, 3, 4, 5, 6, 7] rfl)
    · have hz : ¬ T i ≤ 0 := fun z => hz ((hq_izle (hB i (by omega))).mpr z)
      refine lv_iconst (v := -1) hx hb dX2_findPeaks_28 (by decide) ?_
      refine lv_goto (tgt := 33) hx hb dX2_findPeaks_29 (by decide) ?_
      refine lv_istore (lv' := [(6, .int (-1)), (5, .int (hq_iz (T i))), (4, .int (nI i)), (3, .int (nI pp)), (2, .int x2), (1, .int (nI a)), (0, .ref q)]) hx hb dX2_findPeaks_33 hl (by decide) rfl (fun ls hl => ?_)
      refine lv_iload hx hb dX2_findPeaks_35 (lv_at hl 0 rfl) ?_
      refine lv_iload hx hb dX2_findPeaks_37 (lv_at hl 1 rfl) ?_
      refine lv_iand hx hb dX2_findPeaks_39 ?_
      refine lv_iload hx hb dX2_findPeaks_40 (lv_at hl 0 rfl) ?_
      refine lv_iconst (v := -1) hx hb dX2_findPeaks_42 (by decide) ?_
      refine lv_ixor hx hb dX2_findPeaks_43 ?_
      refine lv_iload hx hb dX2_findPeaks_44 (lv_at hl 1 rfl) ?_
      refine lv_ineg hx hb dX2_findPeaks_46 ?_
      refine lv_iand hx hb dX2_findPeaks_47 ?_
      refine lv_ior hx hb dX2_findPeaks_48 ?_
      refine hq_ti (nI ((T i).natAbs)) (hq_izabsP hz) ?_
      refine lv_istore (lv' := [(7, .int (nI ((T i).natAbs))), (6, .int (-1)), (5, .int (hq_iz (T i))), (4, .int (nI i)), (3, .int (nI pp)), (2, .int x2), (1, .int (nI a)), (0, .ref q)]) hx hb dX2_findPeaks_49 hl (by decide) rfl (fun ls hl => ?_)
      exact hq_fp2 hx hb hml hown hts hA hRf hRl hRc hRs hv.1 (by have := hB i (by omega); omega) (fun hab => ih (i + 1) (by omega) _ _ _ (hq_fpT (by omega) hB hpk hv hab)) (fun hab => ih (i + 1) (by omega) _ _ _ (hq_fpF (by omega) hv hab)) _ _ _ hK hP hD hS (lv_sub hl [0, 2, 3, 4, 5, 6, 7] rfl)
set_option maxHeartbeats 4000000 in
set_option maxRecDepth 100000 in
/-- findPeaks: the place of the greatest absolute value, and its sign -/
theorem metX2_findPeaks (l : Launch) (D : va_G) (q : Nat) (dI : ClassId) (sz : Nat) (f : Nat → Int32) (T : Nat → Int) (k0 : Nat) (hT : ∀ k, k < 128 → f k = hq_iz (T k)) (hB : ∀ k, k < 128 → (T k).natAbs ≤ 192) (hk0 : k0 < 128) (hpk : ∀ k, k < 128 → k ≠ k0 → (T k).natAbs < (T k0).natAbs) :
    hq_Mi (S := Unit) l yX2_findPeaks cX2_findPeaks 8 .int ({ frames := 1, cells := 0, slots := 0, locals := 13 }) D [.ref q] sz [(q, .inl (dI, 128, .inl f))] [(dI, .int)] (fun r _ => r = nI (k0 + (if 0 < T k0 then 128 else 0))) (fun _ => [(q, .inl (dI, 128, .inl f))]) (fun _ => [(dI, .int)]) := by
  refine hq_startI (by decide) (Nat.le_of_ble_eq_true rfl) ?_
  intro p e s m below meth c A ls hx hb hr hml hown hlocks hname hts hK hP hD hS hA hl
  have hown : s.vm.findClass RX2 = some m.cls := hown
  have hl : lv_has ls 8 [(0, .ref q)] := hl
  refine lv_iconst (v := nI 0) hx hb dX2_findPeaks_0 (by decide) ?_
  refine lv_istore_n (lv' := [(1, .int (nI 0)), (0, .ref q)]) hx hb dX2_findPeaks_1 rfl hl (by decide) rfl (fun ls hl => ?_)
  refine lv_iconst (v := nI 0) hx hb dX2_findPeaks_2 (by decide) ?_
  refine lv_istore_n (lv' := [(2, .int (nI 0)), (1, .int (nI 0)), (0, .ref q)]) hx hb dX2_findPeaks_3 rfl hl (by decide) rfl (fun ls hl => ?_)
  refine lv_iconst (v := nI 0) hx hb dX2_findPeaks_4 (by decide) ?_
  refine lv_istore_n (lv' := [(3, .int (nI 0)), (2, .int (nI 0)), (1, .int (nI 0)), (0, .ref q)]) hx hb dX2_findPeaks_5 rfl hl (by decide) rfl (fun ls hl => ?_)
  refine lv_iconst (v := nI 0) hx hb dX2_findPeaks_6 (by decide) ?_
  refine lv_istore (lv' := [(4, .int (nI 0)), (3, .int (nI 0)), (2, .int (nI 0)), (1, .int (nI 0)), (0, .ref q)]) hx hb dX2_findPeaks_7 hl (by decide) rfl (fun ls hl => ?_)
  have h0 : 0 < (T k0).natAbs := by
    by_cases e : k0 = 0
    · have := hpk 1 (by omega) (by omega); omega
    · have := hpk 0 (by omega) (by omega); omega
  refine hq_fpL (T := T) (k0 := k0) hx hb hml hown hts hA (by decide) (by decide) (by decide) (by decide) hT hB hpk (fun a pp x2 hv H locs ls hK hP hD hS hl => ?_) 128 0 rfl 0 0 (nI 0) ⟨by decide, fun z => absurd z (Nat.not_lt_zero _), fun _ => h0⟩ _ _ _ hK hP hD hS hl
  obtain ⟨hv1, hv2, hv3⟩ := hv.2.1 hk0
  subst hv2
  subst hv3
  refine lv_iload_n hx hb dX2_findPeaks_90 rfl (lv_at hl 2 rfl) ?_
  refine lv_if_le (tgt := 98) hx hb dX2_findPeaks_91 (by decide) (fun hz => ?_) (fun hz => ?_)
  · have hz := (hq_izle (hB pp hk0)).mp hz
    refine lv_iconst (v := nI 0) hx hb dX2_findPeaks_98 (by decide) ?_
    refine lv_istore (lv' := [(4, .int (nI 0)), (3, .int (nI pp)), (2, .int (hq_iz (T pp))), (1, .int (nI a)), (0, .ref q)]) hx hb dX2_findPeaks_99 hl (by decide) rfl (fun ls hl => ?_)
    refine lv_iload_n hx hb dX2_findPeaks_101 rfl (lv_at hl 1 rfl) ?_
    refine lv_sipush (v := nI 128) hx hb dX2_findPeaks_102 (by decide) ?_
    refine lv_iload hx hb dX2_findPeaks_105 (lv_at hl 0 rfl) ?_
    refine hq_mul hx hb dX2_findPeaks_107 ?_
    refine lv_ior hx hb dX2_findPeaks_108 ?_
    refine hq_ti (nI pp) ((hq_or128 pp hk0).2) ?_
    refine lv_istore_n (lv' := [(3, .int (nI pp)), (4, .int (nI 0)), (2, .int (hq_iz (T pp))), (1, .int (nI a)), (0, .ref q)]) hx hb dX2_findPeaks_109 rfl hl (by decide) rfl (fun ls hl => ?_)
    refine lv_iload_n hx hb dX2_findPeaks_110 rfl (lv_at hl 0 rfl) ?_
    exact hq_iret hx hb hr hlocks dX2_findPeaks_111 hK hP hD hS () (by rw [if_neg (by omega), Nat.add_zero]) ⟨by decide, by decide⟩ [0] rfl (by decide) [0] rfl
  · have hz : ¬ T pp ≤ 0 := fun z => hz ((hq_izle (hB pp hk0)).mpr z)
    refine lv_iconst (v := nI 1) hx hb dX2_findPeaks_94 (by decide) ?_
    refine lv_goto (tgt := 99) hx hb dX2_findPeaks_95 (by decide) ?_
    refine lv_istore (lv' := [(4, .int (nI 1)), (3, .int (nI pp)), (2, .int (hq_iz (T pp))), (1, .int (nI a)), (0, .ref q)]) hx hb dX2_findPeaks_99 hl (by decide) rfl (fun ls hl => ?_)
    refine lv_iload_n hx hb dX2_findPeaks_101 rfl (lv_at hl 1 rfl) ?_
    refine lv_sipush (v := nI 128) hx hb dX2_findPeaks_102 (by decide) ?_
    refine lv_iload hx hb dX2_findPeaks_105 (lv_at hl 0 rfl) ?_
    refine hq_mul hx hb dX2_findPeaks_107 ?_
    refine lv_ior hx hb dX2_findPeaks_108 ?_
    refine hq_ti (nI (pp + 128)) ((hq_or128 pp hk0).1) ?_
    refine lv_istore_n (lv' := [(3, .int (nI (pp + 128))), (4, .int (nI 1)), (2, .int (hq_iz (T pp))), (1, .int (nI a)), (0, .ref q)]) hx hb dX2_findPeaks_109 rfl hl (by decide) rfl (fun ls hl => ?_)
    refine lv_iload_n hx hb dX2_findPeaks_110 rfl (lv_at hl 0 rfl) ?_
    exact hq_iret hx hb hr hlocks dX2_findPeaks_111 hK hP hD hS () (by rw [if_pos (by omega)]) ⟨by decide, by decide⟩ [0] rfl (by decide) [0] rfl
end
section
/-! CONTRACTS: ReedMuller.encode, ReedMuller.decode (four letters, three times) -/
set_option maxRecDepth 100000
theorem hq_en_step {fw : Nat → Int64} {w4 : Nat → Int32} {vl : Nat → Nat} {i c off : Nat} (hc : c < 3) (ho : off = 6 * i + 2 * c) (h : ∀ k, k < 384 * i + 128 * c → hq_bl fw k = hq_rm (vl (k / 384)) (k % 128)) (h4 : ∀ j, j < 128 → bt (w4 (j / 32)) (j % 32) = hq_rm (vl i) j) :
    ∀ k, k < 384 * i + 128 * (c + 1) → hq_bl (vp_updL (vp_updL fw off (hq_lo (w4 0) (w4 1))) (off + 1) (hq_lo (w4 2) (w4 3))) k = hq_rm (vl (k / 384)) (k % 128) := by
  intro k hk
  by_cases e1 : k / 64 = off + 1
  · unfold hq_bl vp_updL
    rw [if_pos e1, hq_lo_bt _ _ (by omega), show k / 384 = i by omega]
    have e := h4 (k % 128) (by omega)
    by_cases e2 : k % 64 < 32
    · rw [if_pos e2]
      rw [show k % 128 / 32 = 2 by omega, show k % 128 % 32 = k % 64 by omega] at e
      exact e
    · rw [if_neg e2]
      rw [show k % 128 / 32 = 3 by omega, show k % 128 % 32 = k % 64 - 32 by omega] at e
      exact e
  · by_cases e3 : k / 64 = off
    · unfold hq_bl vp_updL
      rw [if_neg e1, if_pos e3, hq_lo_bt _ _ (by omega), show k / 384 = i by omega]
      have e := h4 (k % 128) (by omega)
      by_cases e2 : k % 64 < 32
      · rw [if_pos e2]
        rw [show k % 128 / 32 = 0 by omega, show k % 128 % 32 = k % 64 by omega] at e
        exact e
      · rw [if_neg e2]
        rw [show k % 128 / 32 = 1 by omega, show k % 128 % 32 = k % 64 - 32 by omega] at e
        exact e
    · have e := h k (by omega)
      unfold hq_bl at e ⊢
      unfold vp_updL
      rw [if_neg e1, if_neg e3]
      exact e
theorem hq_en_4 {w4 : Nat → Int32} {v : Nat} (h : ∀ j, j < 4 → w4 j = hq_w4 (hq_by v) j) : ∀ j, j < 128 → bt (w4 (j / 32)) (j % 32) = hq_rm v j := by
  intro j hj
  rw [h (j / 32) (by omega)]
  exact hq_enc_bt hj
set_option maxHeartbeats 4000000 in
set_option maxRecDepth 100000 in
theorem hq_enI {p : Program} {l : Launch} {e : Env} {R : Room} {s : State} {m : MethodId} {args : Array Value} {below : List Frame} {meth : Method} {c : Code} {cells slots : Nat} {Q : State → Prop} {D : va_G} {A : Nat → Prop} {H0 : Heap} {w lt v : Nat} {dL dB dI : ClassId} {fl : Nat → Int32} {vl : Nat → Nat} {f : Nat → Int32} {i : Nat} (hx : p.tables.exec = Jvm.exec) (hb : c.code = cX2_encode) (hi : i < 4) (h4 : ∀ j, j < 128 → bt (f (j / 32)) (j % 32) = hq_rm (vl i) j)
    (ex : ∀ (fw : Nat → Int64) (off : Nat), (off = 6 * i + 2 * 3 ∧ (∀ k, k < 384 * i + 128 * 3 → hq_bl fw k = hq_rm (vl (k / 384)) (k % 128))) → hq_At p l e R s m args below meth c cells slots Q D A H0 12 [(dL, .long), (dB, .byte), (dI, .int)] [(w, .inl (dL, 24, .inr (.inl fw))), (lt, .inl (dB, 4, .inl fl)), (v, .inl (dI, 4, .inl f))] [(11, .int (nI 3)), (9, .long (hq_lo (f 2) (f 3))), (7, .long (hq_lo (f 0) (f 1))), (6, .int (nI i)), (5, .int (nI off)), (4, .ref v), (0, .ref w), (1, .ref lt), (2, .int (nI 4)), (3, .int (nI 3))] 98) :
    ∀ (n j : Nat), j + n = 3 → ∀ (fw : Nat → Int64) (off : Nat), (off = 6 * i + 2 * j ∧ (∀ k, k < 384 * i + 128 * j → hq_bl fw k = hq_rm (vl (k / 384)) (k % 128))) → hq_At p l e R s m args below meth c cells slots Q D A H0 12 [(dL, .long), (dB, .byte), (dI, .int)] [(w, .inl (dL, 24, .inr (.inl fw))), (lt, .inl (dB, 4, .inl fl)), (v, .inl (dI, 4, .inl f))] [(11, .int (nI j)), (9, .long (hq_lo (f 2) (f 3))), (7, .long (hq_lo (f 0) (f 1))), (6, .int (nI i)), (5, .int (nI off)), (4, .ref v), (0, .ref w), (1, .ref lt), (2, .int (nI 4)), (3, .int (nI 3))] 69 := by
  intro n
  induction n with
  | zero =>
    intro j hn fw off hv H locs ls hK hP hD hS hl
    obtain rfl : j = 3 := by omega
    refine lv_iload hx hb dX2_encode_69 (lv_at hl 0 rfl) ?_
    refine lv_iload_n hx hb dX2_encode_71 rfl (lv_at hl 9 rfl) ?_
    refine hq_geT (tgt := 98) hx hb dX2_encode_72 (by decide) (Nat.le_refl _) (by omega) ?_
    exact ex fw off hv _ _ _ hK hP hD hS hl
  | succ n ih =>
    intro j hn fw off hv H locs ls hK hP hD hS hl
    have ho := hv.1
    refine lv_iload hx hb dX2_encode_69 (lv_at hl 0 rfl) ?_
    refine lv_iload_n hx hb dX2_encode_71 rfl (lv_at hl 9 rfl) ?_
    refine hq_geF (tgt := 98) hx hb dX2_encode_72 (by decide) (by omega) (by omega) ?_
    refine lv_aload_n hx hb dX2_encode_75 rfl (lv_at hl 6 rfl) ?_
    refine lv_iload hx hb dX2_encode_76 (lv_at hl 4 rfl) ?_
    refine lv_lload hx hb dX2_encode_78 (lv_at hl 2 rfl) ?_
    refine hq_sl (ws' := [(w, .inl (dL, 24, .inr (.inl (vp_updL fw off (hq_lo (f 0) (f 1)))))), (lt, .inl (dB, 4, .inl fl)), (v, .inl (dI, 4, .inl f))]) hx hb hK hP hD hS 0 0 rfl rfl (by omega) (by omega) rfl dX2_encode_80 (fun H locs hP hD hS => ?_)
    refine lv_aload_n hx hb dX2_encode_81 rfl (lv_at hl 6 rfl) ?_
    refine lv_iload hx hb dX2_encode_82 (lv_at hl 4 rfl) ?_
    refine lv_iconst (v := nI 1) hx hb dX2_encode_84 (by decide) ?_
    refine hq_add hx hb dX2_encode_85 ?_
    refine lv_lload hx hb dX2_encode_86 (lv_at hl 1 rfl) ?_
    refine hq_sl (ws' := [(w, .inl (dL, 24, .inr (.inl (vp_updL (vp_updL fw off (hq_lo (f 0) (f 1))) (off + 1) (hq_lo (f 2) (f 3)))))), (lt, .inl (dB, 4, .inl fl)), (v, .inl (dI, 4, .inl f))]) hx hb hK hP hD hS 0 0 rfl rfl (by omega) (by omega) rfl dX2_encode_88 (fun H locs hP hD hS => ?_)
    refine hq_inc (a := off) (d := 2) (lv' := [(5, .int (nI (off + 2))), (11, .int (nI j)), (9, .long (hq_lo (f 2) (f 3))), (7, .long (hq_lo (f 0) (f 1))), (6, .int (nI i)), (4, .ref v), (0, .ref w), (1, .ref lt), (2, .int (nI 4)), (3, .int (nI 3))]) hx hb dX2_encode_89 hl (k := 4) rfl (by decide) (by decide) rfl (fun ls hl => ?_)
    refine hq_inc (a := j) (d := 1) (lv' := [(11, .int (nI (j + 1))), (5, .int (nI (off + 2))), (9, .long (hq_lo (f 2) (f 3))), (7, .long (hq_lo (f 0) (f 1))), (6, .int (nI i)), (4, .ref v), (0, .ref w), (1, .ref lt), (2, .int (nI 4)), (3, .int (nI 3))]) hx hb dX2_encode_92 hl (k := 1) rfl (by decide) (by decide) rfl (fun ls hl => ?_)
    refine lv_goto (tgt := 69) hx hb dX2_encode_95 (by decide) ?_
    exact ih (j + 1) (by omega) _ _ ⟨by omega, hq_en_step (by omega) hv.1 hv.2 h4⟩ _ _ _ hK hP hD hS (lv_sub hl [0, 2, 3, 4, 1, 5, 6, 7, 8, 9] rfl)
set_option maxHeartbeats 4000000 in
set_option maxRecDepth 100000 in
theorem hq_enO {p : Program} {l : Launch} {e : Env} {R : Room} {s : State} {m : MethodId} {args : Array Value} {below : List Frame} {meth : Method} {c : Code} {cells slots : Nat} {Q : State → Prop} {D : va_G} {A : Nat → Prop} {H0 : Heap} {w lt v : Nat} {dL dB dI : ClassId} {fl : Nat → Int32} {vl : Nat → Nat} (hx : p.tables.exec = Jvm.exec) (hb : c.code = cX2_encode) (hml : c.maxLocals = 12) (hown : s.vm.findClass RX2 = some m.cls) (hts : ∀ w ∈ lw_all, w.before args s = true) (hA : ∀ q : Nat, H0.size ≤ q → A q) (hRf : 2 ≤ R.frames) (hRl : 42 ≤ R.locals) (hRc : cells ≤ R.cells) (hRs : slots ≤ R.slots) (hfl : ∀ j, j < 4 → fl j = hq_by (vl j))
    (ex : ∀ (fw : Nat → Int64) (off : Nat) (f : Nat → Int32), (off = 6 * 4 + 2 * 0 ∧ (∀ k, k < 384 * 4 + 128 * 0 → hq_bl fw k = hq_rm (vl (k / 384)) (k % 128))) → hq_At p l e R s m args below meth c cells slots Q D A H0 12 [(dL, .long), (dB, .byte), (dI, .int)] [(w, .inl (dL, 24, .inr (.inl fw))), (lt, .inl (dB, 4, .inl fl)), (v, .inl (dI, 4, .inl f))] [(6, .int (nI 4)), (5, .int (nI off)), (4, .ref v), (0, .ref w), (1, .ref lt), (2, .int (nI 4)), (3, .int (nI 3))] 104) :
    ∀ (n i : Nat), i + n = 4 → ∀ (fw : Nat → Int64) (off : Nat) (f : Nat → Int32), (off = 6 * i + 2 * 0 ∧ (∀ k, k < 384 * i + 128 * 0 → hq_bl fw k = hq_rm (vl (k / 384)) (k % 128))) → hq_At p l e R s m args below meth c cells slots Q D A H0 12 [(dL, .long), (dB, .byte), (dI, .int)] [(w, .inl (dL, 24, .inr (.inl fw))), (lt, .inl (dB, 4, .inl fl)), (v, .inl (dI, 4, .inl f))] [(6, .int (nI i)), (5, .int (nI off)), (4, .ref v), (0, .ref w), (1, .ref lt), (2, .int (nI 4)), (3, .int (nI 3))] 11 := by
  intro n
  induction n with
  | zero =>
    intro i hn fw off f hv H locs ls hK hP hD hS hl
    obtain rfl : i = 4 := by omega
    refine lv_iload hx hb dX2_encode_11 (lv_at hl 0 rfl) ?_
    refine lv_iload_n hx hb dX2_encode_13 rfl (lv_at hl 5 rfl) ?_
    refine hq_geT (tgt := 104) hx hb dX2_encode_14 (by decide) (Nat.le_refl _) (by omega) ?_
    exact ex fw off f hv _ _ _ hK hP hD hS hl
  | succ n ih =>
    intro i hn fw off f hv H locs ls hK hP hD hS hl
    refine lv_iload hx hb dX2_encode_11 (lv_at hl 0 rfl) ?_
    refine lv_iload_n hx hb dX2_encode_13 rfl (lv_at hl 5 rfl) ?_
    refine hq_geF (tgt := 104) hx hb dX2_encode_14 (by decide) (by omega) (by omega) ?_
    refine lv_aload hx hb dX2_encode_17 (lv_at hl 2 rfl) ?_
    refine lv_aload_n hx hb dX2_encode_19 rfl (lv_at hl 4 rfl) ?_
    refine lv_iload hx hb dX2_encode_20 (lv_at hl 0 rfl) ?_
    refine hq_rb hx hb hK hP 1 1 rfl rfl (by omega) (by omega) dX2_encode_22 ?_
    refine hq_ti (hq_by (vl i)) (hfl i (by omega)) ?_
    refine hq_callSv (As := [.ref v, .int (hq_by (vl i))]) (rest := []) (wr := [(w, .inl (dL, 24, .inr (.inl fw))), (lt, .inl (dB, 4, .inl fl))]) (tr := [(dL, .long), (dB, .byte)]) (cells' := cells) (slots' := slots) ⟨hx, hb, hml, hown, hts⟩ (metX2_encodeSub l D v dI _ f (hq_by (vl i))) 2 q41 q42 q4 q43 (by decide +kernel) rfl ⟨hRf, hRl⟩ ⟨hRc, hRs⟩ ⟨Nat.le_refl _, Nat.le_refl _⟩ hl rfl (Nat.le_of_ble_eq_true rfl) dX2_encode_23 hK hP hD hS hA [2] [0, 1] rfl rfl (by decide) (by decide) (by decide) [2] [0, 1] rfl rfl (fun f1 H locs hw hK hP hD hS => ?_)
    have hP : va_P D vwCl [(w, .inl (dL, 24, .inr (.inl fw))), (lt, .inl (dB, 4, .inl fl)), (v, .inl (dI, 4, .inl f1))] H := hP
    have hD : va_D A [(w, .inl (dL, 24, .inr (.inl fw))), (lt, .inl (dB, 4, .inl fl)), (v, .inl (dI, 4, .inl f1))] := hD
    have hK : va_K D vwCl [(dL, .long), (dB, .byte), (dI, .int)] s := hK
    refine lv_aload hx hb dX2_encode_26 (lv_at hl 2 rfl) ?_
    refine lv_iconst (v := nI 0) hx hb dX2_encode_28 (by decide) ?_
    refine hq_ri hx hb hK hP 2 2 rfl rfl (by omega) (by omega) dX2_encode_29 ?_
    refine lv_i2l hx hb dX2_encode_30 rfl ?_
    refine lv_ldc2 hx hb hown (hts _ q52) dX2_encode_31 ?_
    refine lv_land hx hb dX2_encode_34 ?_
    refine lv_aload hx hb dX2_encode_35 (lv_at hl 2 rfl) ?_
    refine lv_iconst (v := nI 1) hx hb dX2_encode_37 (by decide) ?_
    refine hq_ri hx hb hK hP 2 2 rfl rfl (by omega) (by omega) dX2_encode_38 ?_
    refine lv_i2l hx hb dX2_encode_39 rfl ?_
    refine lv_bipush (v := nI 32) hx hb dX2_encode_40 (by decide) ?_
    refine lv_lshl hx hb dX2_encode_42 rfl ?_
    refine lv_lor hx hb dX2_encode_43 ?_
    refine hq_tl (hq_lo (f1 0) (f1 1)) (rfl) ?_
    refine lv_lstore (lv' := [(7, .long (hq_lo (f1 0) (f1 1))), (6, .int (nI i)), (5, .int (nI off)), (4, .ref v), (0, .ref w), (1, .ref lt), (2, .int (nI 4)), (3, .int (nI 3))]) hx hb dX2_encode_44 hl (by decide) rfl (fun ls hl => ?_)
    refine lv_aload hx hb dX2_encode_46 (lv_at hl 3 rfl) ?_
    refine lv_iconst (v := nI 2) hx hb dX2_encode_48 (by decide) ?_
    refine hq_ri hx hb hK hP 2 2 rfl rfl (by omega) (by omega) dX2_encode_49 ?_
    refine lv_i2l hx hb dX2_encode_50 rfl ?_
    refine lv_ldc2 hx hb hown (hts _ q52) dX2_encode_51 ?_
    refine lv_land hx hb dX2_encode_54 ?_
    refine lv_aload hx hb dX2_encode_55 (lv_at hl 3 rfl) ?_
    refine lv_iconst (v := nI 3) hx hb dX2_encode_57 (by decide) ?_
    refine hq_ri hx hb hK hP 2 2 rfl rfl (by omega) (by omega) dX2_encode_58 ?_
    refine lv_i2l hx hb dX2_encode_59 rfl ?_
    refine lv_bipush (v := nI 32) hx hb dX2_encode_60 (by decide) ?_
    refine lv_lshl hx hb dX2_encode_62 rfl ?_
    refine lv_lor hx hb dX2_encode_63 ?_
    refine hq_tl (hq_lo (f1 2) (f1 3)) (rfl) ?_
    refine lv_lstore (lv' := [(9, .long (hq_lo (f1 2) (f1 3))), (7, .long (hq_lo (f1 0) (f1 1))), (6, .int (nI i)), (5, .int (nI off)), (4, .ref v), (0, .ref w), (1, .ref lt), (2, .int (nI 4)), (3, .int (nI 3))]) hx hb dX2_encode_64 hl (by decide) rfl (fun ls hl => ?_)
    refine lv_iconst (v := nI 0) hx hb dX2_encode_66 (by decide) ?_
    refine lv_istore (lv' := [(11, .int (nI 0)), (9, .long (hq_lo (f1 2) (f1 3))), (7, .long (hq_lo (f1 0) (f1 1))), (6, .int (nI i)), (5, .int (nI off)), (4, .ref v), (0, .ref w), (1, .ref lt), (2, .int (nI 4)), (3, .int (nI 3))]) hx hb dX2_encode_67 hl (by decide) rfl (fun ls hl => ?_)
    refine hq_enI hx hb (show i < 4 by omega) (hq_en_4 hw) (fun fw off hv H locs ls hK hP hD hS hl => ?_) 3 0 rfl fw off ⟨by omega, fun k hk => hv.2 k (by omega)⟩ _ _ _ hK hP hD hS hl
    refine hq_inc (a := i) (d := 1) (lv' := [(6, .int (nI (i + 1))), (11, .int (nI 3)), (9, .long (hq_lo (f1 2) (f1 3))), (7, .long (hq_lo (f1 0) (f1 1))), (5, .int (nI off)), (4, .ref v), (0, .ref w), (1, .ref lt), (2, .int (nI 4)), (3, .int (nI 3))]) hx hb dX2_encode_98 hl (k := 3) rfl (by decide) (by decide) rfl (fun ls hl => ?_)
    refine lv_goto (tgt := 11) hx hb dX2_encode_101 (by decide) ?_
    exact ih (i + 1) (by omega) _ _ _ ⟨by omega, fun k hk => hv.2 k (by omega)⟩ _ _ _ hK hP hD hS (lv_sub hl [0, 4, 5, 6, 7, 8, 9] rfl)
set_option maxHeartbeats 4000000 in
set_option maxRecDepth 100000 in
/-- encode: the word of each of four letters, three times -/
theorem metX2_encode (l : Launch) (D : va_G) (w lt : Nat) (dL dB : ClassId) (sz : Nat) (fw : Nat → Int64) (fl : Nat → Int32) (vl : Nat → Nat) (hfl : ∀ j, j < 4 → fl j = hq_by (vl j)) :
    hq_Mv (S := Nat → Int64) l yX2_encode cX2_encode 12 ({ frames := 2, cells := 1, slots := 4, locals := 42 }) D [.ref w, .ref lt, .int (nI 4), .int (nI 3)] sz [(w, .inl (dL, 24, .inr (.inl fw))), (lt, .inl (dB, 4, .inl fl))] [(dL, .long), (dB, .byte)] (fun g => ∀ k, k < 1536 → hq_bl g k = hq_rm (vl (k / 384)) (k % 128)) (fun g => [(w, .inl (dL, 24, .inr (.inl g))), (lt, .inl (dB, 4, .inl fl))]) (fun _ => [(dL, .long), (dB, .byte)]) := by
  refine hq_startV (by decide) (Nat.le_of_ble_eq_true rfl) ?_
  intro p e s m below meth c A ls hx hb hr hml hown hlocks hname hts hK hP hD hS hA hl
  have hown : s.vm.findClass RX2 = some m.cls := hown
  have hl : lv_has ls 12 [(0, .ref w), (1, .ref lt), (2, .int (nI 4)), (3, .int (nI 3))] := hl
  refine lv_iconst (v := nI 4) hx hb dX2_encode_0 (by decide) ?_
  refine va_newa (atype := .int) (ty := .int) (N' := 4) (a0 := (4, .inl (fun _ => 0))) hx hb (hts _ q53) rfl hK hP hD hS hA (fun _ => rfl) (nI_pos (n := 4) (by omega)) (nI_clamp (n := 4) (by omega)) (Nat.le_of_ble_eq_true rfl) (by decide) (by decide) dX2_encode_1 (fun v dI H hK hP hD hS => ?_)
  have hP : va_P D vwCl [(w, .inl (dL, 24, .inr (.inl fw))), (lt, .inl (dB, 4, .inl fl)), (v, .inl (dI, 4, .inl (fun _ => 0)))] H := hP
  have hD : va_D A [(w, .inl (dL, 24, .inr (.inl fw))), (lt, .inl (dB, 4, .inl fl)), (v, .inl (dI, 4, .inl (fun _ => 0)))] := hD
  have hK : va_K D vwCl [(dL, .long), (dB, .byte), (dI, .int)] s := hK
  refine W.widen (k := 1) (n := 4) (by decide) (by decide) ?_
  refine lv_astore (lv' := [(4, .ref v), (0, .ref w), (1, .ref lt), (2, .int (nI 4)), (3, .int (nI 3))]) hx hb dX2_encode_3 hl (by decide) rfl (fun ls hl => ?_)
  refine lv_iconst (v := nI 0) hx hb dX2_encode_5 (by decide) ?_
  refine lv_istore (lv' := [(5, .int (nI 0)), (4, .ref v), (0, .ref w), (1, .ref lt), (2, .int (nI 4)), (3, .int (nI 3))]) hx hb dX2_encode_6 hl (by decide) rfl (fun ls hl => ?_)
  refine lv_iconst (v := nI 0) hx hb dX2_encode_8 (by decide) ?_
  refine lv_istore (lv' := [(6, .int (nI 0)), (5, .int (nI 0)), (4, .ref v), (0, .ref w), (1, .ref lt), (2, .int (nI 4)), (3, .int (nI 3))]) hx hb dX2_encode_9 hl (by decide) rfl (fun ls hl => ?_)
  refine hq_enO hx hb hml hown hts hA (by decide) (by decide) (by decide) (by decide) hfl (fun fw off f hv H locs ls hK hP hD hS hl => ?_) 4 0 rfl fw 0 (fun _ => 0) ⟨rfl, fun k hk => absurd hk (by omega)⟩ _ _ _ hK hP hD hS hl
  exact hq_vret hx hb hr hlocks dX2_encode_104 hK hP hD hS fw (fun k hk => hv.2 k (by omega)) ⟨by decide, by decide⟩ [0, 1] rfl (by decide) [0, 1] rfl
theorem hq_dec_F {g : Nat → Int32} {wd : Nat → Bool} {i j : Nat} (hi : i < 4) (hj : j < 128) (hg : ∀ k, k < 1536 → bt (g (k / 32)) (k % 32) = wd k) : hq_cn g (i * 3 * 4) j 3 = hq_F wd i j := by
  unfold hq_cn hq_F
  refine hq_sn_congr (fun c hc => ?_)
  have e := hg (i * 384 + c * 128 + j) (by omega)
  rw [show (i * 384 + c * 128 + j) / 32 = i * 3 * 4 + c * 4 + j / 32 by omega, show (i * 384 + c * 128 + j) % 32 = j % 32 by omega] at e
  rw [e]
theorem hq_dec_T {t : Nat → Int32} {G : Nat → Int} (h : ∀ k, k < 128 → t k = hq_iz (G k)) : ∀ k, k < 128 → upd t 0 (t 0 - nI (64 * 3)) k = hq_iz (G k - (if k = 0 then 192 else 0)) := by
  intro k hk
  unfold upd
  by_cases e : k = 0
  · subst e
    rw [if_pos rfl, if_pos rfl, h 0 (by omega), ← hq_iz_sub]
    rfl
  · rw [if_neg e, if_neg e, h k hk, Int.sub_zero]
set_option maxHeartbeats 4000000 in
set_option maxRecDepth 100000 in
theorem hq_deL {p : Program} {l : Launch} {e : Env} {R : Room} {s : State} {m : MethodId} {args : Array Value} {below : List Frame} {meth : Method} {c : Code} {cells slots : Nat} {Q : State → Prop} {D : va_G} {A : Nat → Prop} {H0 : Heap} {r w b4 b5 b6 : Nat} {dB dL d4 d5 d6 : ClassId} {fw : Nat → Int64} {g : Nat → Int32} {vl : Nat → Nat} (hx : p.tables.exec = Jvm.exec) (hb : c.code = cX2_decode) (hml : c.maxLocals = 8) (hown : s.vm.findClass RX2 = some m.cls) (hts : ∀ w ∈ lw_all, w.before args s = true) (hA : ∀ q : Nat, H0.size ≤ q → A q) (hRf : 2 ≤ R.frames) (hRl : 40 ≤ R.locals) (hRc : cells ≤ R.cells) (hRs : slots ≤ R.slots) (hg : ∀ k, k < 1536 → bt (g (k / 32)) (k % 32) = hq_bl fw k) (hnear : hq_near (hq_bl fw) vl 40)
    (ex : ∀ (fr f5 f6 : Nat → Int32), (∀ j, j < 4 → fr j = hq_by (vl j)) → hq_At p l e R s m args below meth c cells slots Q D A H0 8 [(dB, .byte), (dL, .long), (d4, .int), (d5, .int), (d6, .int)] [(r, .inl (dB, 4, .inl fr)), (w, .inl (dL, 24, .inr (.inl fw))), (b4, .inl (d4, 48, .inl g)), (b5, .inl (d5, 128, .inl f5)), (b6, .inl (d6, 128, .inl f6))] [(7, .int (nI 4)), (6, .ref b6), (5, .ref b5), (4, .ref b4), (0, .ref r), (1, .ref w), (2, .int (nI 4)), (3, .int (nI 3))] 83) :
    ∀ (n i : Nat), i + n = 4 → ∀ (fr f5 f6 : Nat → Int32), (∀ j, j < i → fr j = hq_by (vl j)) → hq_At p l e R s m args below meth c cells slots Q D A H0 8 [(dB, .byte), (dL, .long), (d4, .int), (d5, .int), (d6, .int)] [(r, .inl (dB, 4, .inl fr)), (w, .inl (dL, 24, .inr (.inl fw))), (b4, .inl (d4, 48, .inl g)), (b5, .inl (d5, 128, .inl f5)), (b6, .inl (d6, 128, .inl f6))] [(7, .int (nI i)), (6, .ref b6), (5, .ref b5), (4, .ref b4), (0, .ref r), (1, .ref w), (2, .int (nI 4)), (3, .int (nI 3))] 31 := by
  intro n
  induction n with
  | zero =>
    intro i hn fr f5 f6 hv H locs ls hK hP hD hS hl
    obtain rfl : i = 4 := by omega
    refine lv_iload hx hb dX2_decode_31 (lv_at hl 0 rfl) ?_
    refine lv_iload_n hx hb dX2_decode_33 rfl (lv_at hl 6 rfl) ?_
    refine hq_geT (tgt := 83) hx hb dX2_decode_34 (by decide) (Nat.le_refl _) (by omega) ?_
    exact ex fr f5 f6 hv _ _ _ hK hP hD hS hl
  | succ n ih =>
    intro i hn fr f5 f6 hv H locs ls hK hP hD hS hl
    have hi4 : i < 4 := by omega
    refine lv_iload hx hb dX2_decode_31 (lv_at hl 0 rfl) ?_
    refine lv_iload_n hx hb dX2_decode_33 rfl (lv_at hl 6 rfl) ?_
    refine hq_geF (tgt := 83) hx hb dX2_decode_34 (by decide) (by omega) (by omega) ?_
    refine lv_aload hx hb dX2_decode_37 (lv_at hl 2 rfl) ?_
    refine lv_aload hx hb dX2_decode_39 (lv_at hl 3 rfl) ?_
    refine lv_iload hx hb dX2_decode_41 (lv_at hl 0 rfl) ?_
    refine lv_iload_n hx hb dX2_decode_43 rfl (lv_at hl 7 rfl) ?_
    refine hq_mul hx hb dX2_decode_44 ?_
    refine lv_iload_n hx hb dX2_decode_45 rfl (lv_at hl 7 rfl) ?_
    refine hq_callSv (As := [.ref b5, .ref b4, .int (nI (i * 3)), .int (nI 3)]) (rest := []) (wr := [(r, .inl (dB, 4, .inl fr)), (w, .inl (dL, 24, .inr (.inl fw))), (b6, .inl (d6, 128, .inl f6))]) (tr := [(dB, .byte), (dL, .long), (d6, .int)]) (cells' := cells) (slots' := slots) ⟨hx, hb, hml, hown, hts⟩ (metX2_expand l D b5 b4 d5 d4 _ f5 g (i * 3) (by omega)) 4 q73 q74 q4 q75 (by decide +kernel) rfl ⟨Nat.le_trans (by decide) hRf, Nat.le_trans (by decide) hRl⟩ ⟨hRc, hRs⟩ ⟨Nat.le_refl _, Nat.le_refl _⟩ hl rfl (Nat.le_of_ble_eq_true rfl) dX2_decode_46 hK hP hD hS hA [3, 2] [0, 1, 4] rfl rfl (by decide) (by decide) (by decide) [3, 2] [0, 1, 4] rfl rfl (fun e5 H locs hw hK hP hD hS => ?_)
    have hP : va_P D vwCl [(r, .inl (dB, 4, .inl fr)), (w, .inl (dL, 24, .inr (.inl fw))), (b6, .inl (d6, 128, .inl f6)), (b5, .inl (d5, 128, .inl e5)), (b4, .inl (d4, 48, .inl g))] H := hP
    have hD : va_D A [(r, .inl (dB, 4, .inl fr)), (w, .inl (dL, 24, .inr (.inl fw))), (b6, .inl (d6, 128, .inl f6)), (b5, .inl (d5, 128, .inl e5)), (b4, .inl (d4, 48, .inl g))] := hD
    have hK : va_K D vwCl [(dB, .byte), (dL, .long), (d6, .int), (d5, .int), (d4, .int)] s := hK
    have hF : ∀ k, k < 128 → e5 k = hq_iz (hq_F (hq_bl fw) i k : Int) := fun k hk => by rw [hw k hk, hq_dec_F hi4 hk hg]; rfl
    refine lv_aload hx hb dX2_decode_49 (lv_at hl 2 rfl) ?_
    refine lv_aload hx hb dX2_decode_51 (lv_at hl 1 rfl) ?_
    refine hq_callSv (As := [.ref b5, .ref b6]) (rest := []) (wr := [(r, .inl (dB, 4, .inl fr)), (w, .inl (dL, 24, .inr (.inl fw))), (b4, .inl (d4, 48, .inl g))]) (tr := [(dB, .byte), (dL, .long), (d4, .int)]) (cells' := cells) (slots' := slots) ⟨hx, hb, hml, hown, hts⟩ (metX2_hadamard l D b5 b6 d5 d6 _ e5 f6 _ hF) 2 q76 q77 q4 q78 (by decide +kernel) rfl ⟨Nat.le_trans (by decide) hRf, Nat.le_trans (by decide) hRl⟩ ⟨hRc, hRs⟩ ⟨Nat.le_refl _, Nat.le_refl _⟩ hl rfl (Nat.le_of_ble_eq_true rfl) dX2_decode_53 hK hP hD hS hA [3, 2] [0, 1, 4] rfl rfl (by decide) (by decide) (by decide) [3, 2] [0, 1, 4] rfl rfl (fun u H locs hw hK hP hD hS => ?_)
    have hP : va_P D vwCl [(r, .inl (dB, 4, .inl fr)), (w, .inl (dL, 24, .inr (.inl fw))), (b4, .inl (d4, 48, .inl g)), (b5, .inl (d5, 128, .inl u.1)), (b6, .inl (d6, 128, .inl u.2))] H := hP
    have hD : va_D A [(r, .inl (dB, 4, .inl fr)), (w, .inl (dL, 24, .inr (.inl fw))), (b4, .inl (d4, 48, .inl g)), (b5, .inl (d5, 128, .inl u.1)), (b6, .inl (d6, 128, .inl u.2))] := hD
    have hK : va_K D vwCl [(dB, .byte), (dL, .long), (d4, .int), (d5, .int), (d6, .int)] s := hK
    obtain ⟨hB, k0, hk0, hpk, hvl⟩ := hq_peak hnear hi4 (T := fun k => hq_tr 7 (fun j => (hq_F (hq_bl fw) i j : Int)) k - (if k = 0 then 192 else 0)) (fun k hk => hq_trD _ _ hk)
    refine lv_aload hx hb dX2_decode_56 (lv_at hl 1 rfl) ?_
    refine lv_iconst (v := nI 0) hx hb dX2_decode_58 (by decide) ?_
    refine lv_dup2_11 hx hb dX2_decode_59 rfl rfl ?_
    refine hq_ri hx hb hK hP 4 4 rfl rfl (by omega) (by omega) dX2_decode_60 ?_
    refine lv_bipush (v := nI 64) hx hb dX2_decode_61 (by decide) ?_
    refine lv_iload_n hx hb dX2_decode_63 rfl (lv_at hl 7 rfl) ?_
    refine hq_mul hx hb dX2_decode_64 ?_
    refine lv_isub hx hb dX2_decode_65 ?_
    refine hq_si (ws' := [(r, .inl (dB, 4, .inl fr)), (w, .inl (dL, 24, .inr (.inl fw))), (b4, .inl (d4, 48, .inl g)), (b5, .inl (d5, 128, .inl u.1)), (b6, .inl (d6, 128, .inl (upd u.2 0 ((u.2 0) - (nI (64 * 3))))))]) hx hb hK hP hD hS 4 4 rfl rfl (by omega) (by omega) rfl dX2_decode_66 (fun H locs hP hD hS => ?_)
    refine lv_aload_n hx hb dX2_decode_67 rfl (lv_at hl 4 rfl) ?_
    refine lv_iload hx hb dX2_decode_68 (lv_at hl 0 rfl) ?_
    refine lv_aload hx hb dX2_decode_70 (lv_at hl 1 rfl) ?_
    refine hq_callSi (As := [.ref b6]) (rest := [.int (nI i), .ref r]) (wr := [(r, .inl (dB, 4, .inl fr)), (w, .inl (dL, 24, .inr (.inl fw))), (b4, .inl (d4, 48, .inl g)), (b5, .inl (d5, 128, .inl u.1))]) (tr := [(dB, .byte), (dL, .long), (d4, .int), (d5, .int)]) (cells' := cells) (slots' := slots) ⟨hx, hb, hml, hown, hts⟩ (metX2_findPeaks l D b6 d6 _ (upd u.2 0 ((u.2 0) - (nI (64 * 3)))) _ k0 (hq_dec_T hw) hB hk0 hpk) 1 q79 q80 q4 q81 (by decide +kernel) rfl ⟨hRf, hRl⟩ ⟨hRc, hRs⟩ ⟨Nat.le_refl _, Nat.le_refl _⟩ hl rfl (Nat.le_of_ble_eq_true rfl) dX2_decode_72 hK hP hD hS hA [4] [0, 1, 2, 3] rfl rfl (by decide) (by decide) (by decide) [4] [0, 1, 2, 3] rfl rfl (fun rr _ H locs hw hK hP hD hS => ?_)
    have hP : va_P D vwCl [(r, .inl (dB, 4, .inl fr)), (w, .inl (dL, 24, .inr (.inl fw))), (b4, .inl (d4, 48, .inl g)), (b5, .inl (d5, 128, .inl u.1)), (b6, .inl (d6, 128, .inl (upd u.2 0 ((u.2 0) - (nI (64 * 3))))))] H := hP
    have hD : va_D A [(r, .inl (dB, 4, .inl fr)), (w, .inl (dL, 24, .inr (.inl fw))), (b4, .inl (d4, 48, .inl g)), (b5, .inl (d5, 128, .inl u.1)), (b6, .inl (d6, 128, .inl (upd u.2 0 ((u.2 0) - (nI (64 * 3))))))] := hD
    have hK : va_K D vwCl [(dB, .byte), (dL, .long), (d4, .int), (d5, .int), (d6, .int)] s := hK
    subst hw
    refine lv_i2b hx hb dX2_decode_75 rfl ?_
    refine hq_ti (hq_by (vl i)) (by rw [hvl]; rfl) ?_
    refine hq_sb (ws' := [(r, .inl (dB, 4, .inl (upd fr i (hq_by (vl i))))), (w, .inl (dL, 24, .inr (.inl fw))), (b4, .inl (d4, 48, .inl g)), (b5, .inl (d5, 128, .inl u.1)), (b6, .inl (d6, 128, .inl (upd u.2 0 ((u.2 0) - (nI (64 * 3))))))]) hx hb hK hP hD hS 0 0 rfl rfl (by omega) (by omega) (hq_by_nar _) rfl dX2_decode_76 (fun H locs hP hD hS => ?_)
    refine hq_inc (a := i) (d := 1) (lv' := [(7, .int (nI (i + 1))), (6, .ref b6), (5, .ref b5), (4, .ref b4), (0, .ref r), (1, .ref w), (2, .int (nI 4)), (3, .int (nI 3))]) hx hb dX2_decode_77 hl (k := 0) rfl (by decide) (by decide) rfl (fun ls hl => ?_)
    refine lv_goto (tgt := 31) hx hb dX2_decode_80 (by decide) ?_
    exact ih (i + 1) (by omega) _ _ _ (fun j hj => by
      unfold upd
      by_cases e : j = i
      · rw [if_pos e, e]
      · rw [if_neg e]
        exact hv j (by omega)) _ _ _ hK hP hD hS hl
set_option maxHeartbeats 4000000 in
set_option maxRecDepth 100000 in
/-- decode: of a word near the words of four letters, the letters -/
theorem metX2_decode (l : Launch) (D : va_G) (r w : Nat) (dB dL : ClassId) (sz : Nat) (fr : Nat → Int32) (fw : Nat → Int64) (vl : Nat → Nat) (hnear : hq_near (hq_bl fw) vl 40) :
    hq_Mv (S := Nat → Int32) l yX2_decode cX2_decode 8 ({ frames := 2, cells := 3, slots := 304, locals := 40 }) D [.ref r, .ref w, .int (nI 4), .int (nI 3)] sz [(r, .inl (dB, 4, .inl fr)), (w, .inl (dL, 24, .inr (.inl fw)))] [(dB, .byte), (dL, .long)] (fun f => ∀ j, j < 4 → f j = hq_by (vl j)) (fun f => [(r, .inl (dB, 4, .inl f)), (w, .inl (dL, 24, .inr (.inl fw)))]) (fun _ => [(dB, .byte), (dL, .long)]) := by
  refine hq_startV (by decide) (Nat.le_of_ble_eq_true rfl) ?_
  intro p e s m below meth c A ls hx hb hr hml hown hlocks hname hts hK hP hD hS hA hl
  have hown : s.vm.findClass RX2 = some m.cls := hown
  have hl : lv_has ls 8 [(0, .ref r), (1, .ref w), (2, .int (nI 4)), (3, .int (nI 3))] := hl
  refine lv_aload_n hx hb dX2_decode_0 rfl (lv_at hl 1 rfl) ?_
  refine hq_alen hx hb hK hP 1 1 rfl rfl dX2_decode_1 ?_
  refine lv_iconst (v := nI 2) hx hb dX2_decode_2 (by decide) ?_
  refine hq_mul hx hb dX2_decode_3 ?_
  refine va_newa (atype := .int) (ty := .int) (N' := 48) (a0 := (48, .inl (fun _ => 0))) hx hb (hts _ q53) rfl hK hP hD hS hA (fun _ => rfl) (nI_pos (n := 48) (by omega)) (nI_clamp (n := 48) (by omega)) (Nat.le_of_ble_eq_true rfl) (by decide) (by decide) dX2_decode_4 (fun b4 d4 H hK hP hD hS => ?_)
  have hP : va_P D vwCl [(r, .inl (dB, 4, .inl fr)), (w, .inl (dL, 24, .inr (.inl fw))), (b4, .inl (d4, 48, .inl (fun _ => 0)))] H := hP
  have hD : va_D A [(r, .inl (dB, 4, .inl fr)), (w, .inl (dL, 24, .inr (.inl fw))), (b4, .inl (d4, 48, .inl (fun _ => 0)))] := hD
  have hK : va_K D vwCl [(dB, .byte), (dL, .long), (d4, .int)] s := hK
  refine W.widen (k := 1) (n := 48) (by decide) (by decide) ?_
  refine lv_astore (lv' := [(4, .ref b4), (0, .ref r), (1, .ref w), (2, .int (nI 4)), (3, .int (nI 3))]) hx hb dX2_decode_6 hl (by decide) rfl (fun ls hl => ?_)
  refine lv_aload hx hb dX2_decode_8 (lv_at hl 0 rfl) ?_
  refine lv_aload_n hx hb dX2_decode_10 rfl (lv_at hl 2 rfl) ?_
  refine hq_callSv (As := [.ref b4, .ref w]) (rest := []) (wr := [(r, .inl (dB, 4, .inl fr))]) (tr := [(dB, .byte)]) (cells' := 1) (slots' := 48) ⟨hx, hb, hml, hown, hts⟩ (metX3_from l D b4 w d4 dL _ (fun _ => 0) fw) 2 q70 q71 q5 q72 (by decide +kernel) rfl ⟨by decide, by decide⟩ ⟨by decide, by decide⟩ ⟨Nat.le_refl _, Nat.le_refl _⟩ hl rfl (Nat.le_of_ble_eq_true rfl) dX2_decode_11 hK hP hD hS hA [2, 1] [0] rfl rfl (by decide) (by decide) (by decide) [2, 1] [0] rfl rfl (fun g H locs hw hK hP hD hS => ?_)
  have hP : va_P D vwCl [(r, .inl (dB, 4, .inl fr)), (b4, .inl (d4, 48, .inl g)), (w, .inl (dL, 24, .inr (.inl fw)))] H := hP
  have hD : va_D A [(r, .inl (dB, 4, .inl fr)), (b4, .inl (d4, 48, .inl g)), (w, .inl (dL, 24, .inr (.inl fw)))] := hD
  have hK : va_K D vwCl [(dB, .byte), (d4, .int), (dL, .long)] s := hK
  refine lv_sipush (v := nI 128) hx hb dX2_decode_14 (by decide) ?_
  refine va_newa (atype := .int) (ty := .int) (N' := 128) (a0 := (128, .inl (fun _ => 0))) hx hb (hts _ q53) rfl hK hP hD hS hA (fun _ => rfl) (nI_pos (n := 128) (by omega)) (nI_clamp (n := 128) (by omega)) (Nat.le_of_ble_eq_true rfl) (by decide) (by decide) dX2_decode_17 (fun b5 d5 H hK hP hD hS => ?_)
  have hP : va_P D vwCl [(r, .inl (dB, 4, .inl fr)), (b4, .inl (d4, 48, .inl g)), (w, .inl (dL, 24, .inr (.inl fw))), (b5, .inl (d5, 128, .inl (fun _ => 0)))] H := hP
  have hD : va_D A [(r, .inl (dB, 4, .inl fr)), (b4, .inl (d4, 48, .inl g)), (w, .inl (dL, 24, .inr (.inl fw))), (b5, .inl (d5, 128, .inl (fun _ => 0)))] := hD
  have hK : va_K D vwCl [(dB, .byte), (d4, .int), (dL, .long), (d5, .int)] s := hK
  refine W.widen (k := 2) (n := 176) (by decide) (by decide) ?_
  refine lv_astore (lv' := [(5, .ref b5), (4, .ref b4), (0, .ref r), (1, .ref w), (2, .int (nI 4)), (3, .int (nI 3))]) hx hb dX2_decode_19 hl (by decide) rfl (fun ls hl => ?_)
  refine lv_sipush (v := nI 128) hx hb dX2_decode_21 (by decide) ?_
  refine va_newa (atype := .int) (ty := .int) (N' := 128) (a0 := (128, .inl (fun _ => 0))) hx hb (hts _ q53) rfl hK hP hD hS hA (fun _ => rfl) (nI_pos (n := 128) (by omega)) (nI_clamp (n := 128) (by omega)) (Nat.le_of_ble_eq_true rfl) (by decide) (by decide) dX2_decode_24 (fun b6 d6 H hK hP hD hS => ?_)
  have hP : va_P D vwCl [(r, .inl (dB, 4, .inl fr)), (b4, .inl (d4, 48, .inl g)), (w, .inl (dL, 24, .inr (.inl fw))), (b5, .inl (d5, 128, .inl (fun _ => 0))), (b6, .inl (d6, 128, .inl (fun _ => 0)))] H := hP
  have hD : va_D A [(r, .inl (dB, 4, .inl fr)), (b4, .inl (d4, 48, .inl g)), (w, .inl (dL, 24, .inr (.inl fw))), (b5, .inl (d5, 128, .inl (fun _ => 0))), (b6, .inl (d6, 128, .inl (fun _ => 0)))] := hD
  have hK : va_K D vwCl [(dB, .byte), (d4, .int), (dL, .long), (d5, .int), (d6, .int)] s := hK
  refine W.widen (k := 3) (n := 304) (by decide) (by decide) ?_
  refine lv_astore (lv' := [(6, .ref b6), (5, .ref b5), (4, .ref b4), (0, .ref r), (1, .ref w), (2, .int (nI 4)), (3, .int (nI 3))]) hx hb dX2_decode_26 hl (by decide) rfl (fun ls hl => ?_)
  refine lv_iconst (v := nI 0) hx hb dX2_decode_28 (by decide) ?_
  refine lv_istore (lv' := [(7, .int (nI 0)), (6, .ref b6), (5, .ref b5), (4, .ref b4), (0, .ref r), (1, .ref w), (2, .int (nI 4)), (3, .int (nI 3))]) hx hb dX2_decode_29 hl (by decide) rfl (fun ls hl => ?_)
  refine hq_deL hx hb hml hown hts hA (by decide) (by decide) (by decide) (by decide) hw hnear (fun fr f5 f6 hv H locs ls hK hP hD hS hl => ?_) 4 0 rfl fr _ _ (fun j hj => absurd hj (by omega)) _ _ _ (hK.sub [0, 2, 1, 3, 4] rfl) (hP.sub [0, 2, 1, 3, 4] rfl) (hD.sub [0, 2, 1, 3, 4] (by decide) rfl) hS hl
  exact hq_vret hx hb hr hlocks dX2_decode_83 hK hP hD hS fr hv ⟨by decide, by decide⟩ [0, 1] rfl (by decide) [0, 1] rfl
end
section
/-! CONTRACTS: InnerCode -/
set_option maxRecDepth 100000
set_option maxHeartbeats 4000000 in
set_option maxRecDepth 100000 in
/-- InnerCode(): three new arrays, all zero -/
theorem metX0_init (l : Launch) (D : va_G) (a0 sz : Nat) :
    hq_Mv (S := (Nat × Nat × Nat) × (ClassId × ClassId × ClassId)) l yX0_init cX0_init 1 ({ frames := 1, cells := 3, slots := 32, locals := 12 }) D [.ref a0] sz [(a0, .inr (0, [.null, .null, .null, .int 0]))] [] (fun _ => True) (fun u => [(a0, .inr (0, [.ref u.1.1, .ref u.1.2.1, .ref u.1.2.2, .int 0])), (u.1.1, .inl (u.2.1, 4, .inl (fun _ => 0))), (u.1.2.1, .inl (u.2.2.1, 24, .inr (.inl (fun _ => 0)))), (u.1.2.2, .inl (u.2.2.2, 4, .inl (fun _ => 0)))]) (fun u => [(u.2.1, .byte), (u.2.2.1, .long), (u.2.2.2, .byte)]) := by
  refine hq_startV (by decide) (Nat.le_of_ble_eq_true rfl) ?_
  intro p e s m below meth c A ls hx hb hr hml hown hlocks hname hts hK hP hD hS hA hl
  have hown : s.vm.findClass RX0 = some m.cls := hown
  have hl : lv_has ls 1 [(0, .ref a0)] := hl
  refine lv_aload_n hx hb dX0_init_0 rfl (lv_at hl 0 rfl) ?_
  refine W.objInit hx hb hown (hts _ q12) (hts _ q13) (hts _ q14) rfl (by rw [hml]; exact hl.1) rfl dX0_init_1 (Nat.le_of_ble_eq_true rfl) (Nat.le_of_ble_eq_true rfl) ?_
  refine W.eq (g2 := F0 m 4 ls []) rfl ?_
  refine lv_aload_n hx hb dX0_init_4 rfl (lv_at hl 0 rfl) ?_
  refine lv_iconst (v := nI 4) hx hb dX0_init_5 (by decide) ?_
  refine va_newa (atype := .byte) (ty := .byte) (N' := 4) (a0 := (4, .inl (fun _ => 0))) hx hb (hts _ q28) rfl hK hP hD hS hA (fun _ => rfl) (nI_pos (n := 4) (by omega)) (nI_clamp (n := 4) (by omega)) (Nat.le_of_ble_eq_true rfl) (by decide) (by decide) dX0_init_6 (fun a1 dB H hK hP hD hS => ?_)
  have hP : va_P D vwCl [(a0, .inr (0, [.null, .null, .null, .int 0])), (a1, .inl (dB, 4, .inl (fun _ => 0)))] H := hP
  have hD : va_D A [(a0, .inr (0, [.null, .null, .null, .int 0])), (a1, .inl (dB, 4, .inl (fun _ => 0)))] := hD
  have hK : va_K D vwCl [(dB, .byte)] s := hK
  refine W.widen (k := 1) (n := 4) (by decide) (by decide) ?_
  refine va_putF (D := D) (ci := 0) (v := .ref a1) (ty := (.array .byte)) (C := RX0) (T := TX0) (N := 4) hx hb hts in_X0 tyX0 tyX0_ok nmX0 hown hK hP hD hS 0 rfl rfl 0 (by decide) (hts _ q15) (fun _ h9 => h9) rfl hname rfl (by decide +kernel) rfl rfl (Nat.le_of_ble_eq_true rfl) dX0_init_8 (fun H locs hP hD hS => ?_)
  have hP : va_P D vwCl [(a0, .inr (0, [.ref a1, .null, .null, .int 0])), (a1, .inl (dB, 4, .inl (fun _ => 0)))] H := hP
  have hD : va_D A [(a0, .inr (0, [.ref a1, .null, .null, .int 0])), (a1, .inl (dB, 4, .inl (fun _ => 0)))] := hD
  refine lv_aload_n hx hb dX0_init_11 rfl (lv_at hl 0 rfl) ?_
  refine lv_bipush (v := nI 24) hx hb dX0_init_12 (by decide) ?_
  refine va_newa (atype := .long) (ty := .long) (N' := 24) (a0 := (24, .inr (.inl (fun _ => 0)))) hx hb (hts _ q29) rfl hK hP hD hS hA (fun _ => rfl) (nI_pos (n := 24) (by omega)) (nI_clamp (n := 24) (by omega)) (Nat.le_of_ble_eq_true rfl) (by decide) (by decide) dX0_init_14 (fun a2 dL H hK hP hD hS => ?_)
  have hP : va_P D vwCl [(a0, .inr (0, [.ref a1, .null, .null, .int 0])), (a1, .inl (dB, 4, .inl (fun _ => 0))), (a2, .inl (dL, 24, .inr (.inl (fun _ => 0))))] H := hP
  have hD : va_D A [(a0, .inr (0, [.ref a1, .null, .null, .int 0])), (a1, .inl (dB, 4, .inl (fun _ => 0))), (a2, .inl (dL, 24, .inr (.inl (fun _ => 0))))] := hD
  have hK : va_K D vwCl [(dB, .byte), (dL, .long)] s := hK
  refine W.widen (k := 2) (n := 28) (by decide) (by decide) ?_
  refine va_putF (D := D) (ci := 0) (v := .ref a2) (ty := (.array .long)) (C := RX0) (T := TX0) (N := 4) hx hb hts in_X0 tyX0 tyX0_ok nmX0 hown hK hP hD hS 0 rfl rfl 1 (by decide) (hts _ q16) (fun _ h9 => h9) rfl hname rfl (by decide +kernel) rfl rfl (Nat.le_of_ble_eq_true rfl) dX0_init_16 (fun H locs hP hD hS => ?_)
  have hP : va_P D vwCl [(a0, .inr (0, [.ref a1, .ref a2, .null, .int 0])), (a1, .inl (dB, 4, .inl (fun _ => 0))), (a2, .inl (dL, 24, .inr (.inl (fun _ => 0))))] H := hP
  have hD : va_D A [(a0, .inr (0, [.ref a1, .ref a2, .null, .int 0])), (a1, .inl (dB, 4, .inl (fun _ => 0))), (a2, .inl (dL, 24, .inr (.inl (fun _ => 0))))] := hD
  refine lv_aload_n hx hb dX0_init_19 rfl (lv_at hl 0 rfl) ?_
  refine lv_iconst (v := nI 4) hx hb dX0_init_20 (by decide) ?_
  refine va_newa (atype := .byte) (ty := .byte) (N' := 4) (a0 := (4, .inl (fun _ => 0))) hx hb (hts _ q28) rfl hK hP hD hS hA (fun _ => rfl) (nI_pos (n := 4) (by omega)) (nI_clamp (n := 4) (by omega)) (Nat.le_of_ble_eq_true rfl) (by decide) (by decide) dX0_init_21 (fun a3 dR H hK hP hD hS => ?_)
  have hP : va_P D vwCl [(a0, .inr (0, [.ref a1, .ref a2, .null, .int 0])), (a1, .inl (dB, 4, .inl (fun _ => 0))), (a2, .inl (dL, 24, .inr (.inl (fun _ => 0)))), (a3, .inl (dR, 4, .inl (fun _ => 0)))] H := hP
  have hD : va_D A [(a0, .inr (0, [.ref a1, .ref a2, .null, .int 0])), (a1, .inl (dB, 4, .inl (fun _ => 0))), (a2, .inl (dL, 24, .inr (.inl (fun _ => 0)))), (a3, .inl (dR, 4, .inl (fun _ => 0)))] := hD
  have hK : va_K D vwCl [(dB, .byte), (dL, .long), (dR, .byte)] s := hK
  refine W.widen (k := 3) (n := 32) (by decide) (by decide) ?_
  refine va_putF (D := D) (ci := 0) (v := .ref a3) (ty := (.array .byte)) (C := RX0) (T := TX0) (N := 4) hx hb hts in_X0 tyX0 tyX0_ok nmX0 hown hK hP hD hS 0 rfl rfl 2 (by decide) (hts _ q17) (fun _ h9 => h9) rfl hname rfl (by decide +kernel) rfl rfl (Nat.le_of_ble_eq_true rfl) dX0_init_23 (fun H locs hP hD hS => ?_)
  have hP : va_P D vwCl [(a0, .inr (0, [.ref a1, .ref a2, .ref a3, .int 0])), (a1, .inl (dB, 4, .inl (fun _ => 0))), (a2, .inl (dL, 24, .inr (.inl (fun _ => 0)))), (a3, .inl (dR, 4, .inl (fun _ => 0)))] H := hP
  have hD : va_D A [(a0, .inr (0, [.ref a1, .ref a2, .ref a3, .int 0])), (a1, .inl (dB, 4, .inl (fun _ => 0))), (a2, .inl (dL, 24, .inr (.inl (fun _ => 0)))), (a3, .inl (dR, 4, .inl (fun _ => 0)))] := hD
  exact hq_vret hx hb hr hlocks dX0_init_26 hK hP hD hS ((a1, a2, a3), (dB, dL, dR)) trivial ⟨by decide, by decide⟩ [0, 1, 2, 3] rfl (by decide) [0, 1, 2] rfl
set_option maxHeartbeats 4000000 in
set_option maxRecDepth 100000 in
/-- letter(i, v): one letter is set -/
theorem metX0_letter (l : Launch) (D : va_G) (a0 a1 a2 a3 : Nat) (dB dL dR : ClassId) (sz : Nat) (fl : Nat → Int32) (fw : Nat → Int64) (fr : Nat → Int32) (cn : Nat) (i0 x0 : Int32) :
    hq_Mv (S := Unit) l yX0_letter cX0_letter 3 ({ frames := 0, cells := 0, slots := 0, locals := 0 }) D [.ref a0, .int i0, .int x0] sz [(a0, .inr (0, [.ref a1, .ref a2, .ref a3, .int (nI cn)])), (a1, .inl (dB, 4, .inl fl)), (a2, .inl (dL, 24, .inr (.inl fw))), (a3, .inl (dR, 4, .inl fr))] [(dB, .byte), (dL, .long), (dR, .byte)] (fun _ => True) (fun _ => [(a0, .inr (0, [.ref a1, .ref a2, .ref a3, .int (nI cn)])), (a1, .inl (dB, 4, .inl (upd fl (i0.toBitVec.toNat % 4) (hq_by (x0.toBitVec.toNat % 256))))), (a2, .inl (dL, 24, .inr (.inl fw))), (a3, .inl (dR, 4, .inl fr))]) (fun _ => [(dB, .byte), (dL, .long), (dR, .byte)]) := by
  refine hq_startV (by decide) (Nat.le_of_ble_eq_true rfl) ?_
  intro p e s m below meth c A ls hx hb hr hml hown hlocks hname hts hK hP hD hS hA hl
  have hown : s.vm.findClass RX0 = some m.cls := hown
  have hl : lv_has ls 3 [(0, .ref a0), (1, .int i0), (2, .int x0)] := hl
  refine lv_aload_n hx hb dX0_letter_0 rfl (lv_at hl 0 rfl) ?_
  refine va_get (D := D) (ci := 0) (v := .ref a1) (C := RX0) (T := TX0) (N := 4) hx hb hts in_X0 hown hK hP 0 rfl rfl 0 (by decide) (hts _ q15) (fun _ h9 => h9) rfl dX0_letter_1 ?_
  refine lv_iload_n hx hb dX0_letter_4 rfl (lv_at hl 1 rfl) ?_
  refine lv_iconst (v := nI 3) hx hb dX0_letter_5 (by decide) ?_
  refine lv_iand hx hb dX0_letter_6 ?_
  refine hq_ti (nI (i0.toBitVec.toNat % 4)) (hq_and3 _) ?_
  refine lv_iload_n hx hb dX0_letter_7 rfl (lv_at hl 2 rfl) ?_
  refine lv_i2b hx hb dX0_letter_8 rfl ?_
  refine hq_ti (hq_by (x0.toBitVec.toNat % 256)) (hq_by_of _) ?_
  refine hq_sb (ws' := [(a0, .inr (0, [.ref a1, .ref a2, .ref a3, .int (nI cn)])), (a1, .inl (dB, 4, .inl (upd fl (i0.toBitVec.toNat % 4) (hq_by (x0.toBitVec.toNat % 256))))), (a2, .inl (dL, 24, .inr (.inl fw))), (a3, .inl (dR, 4, .inl fr))]) hx hb hK hP hD hS 1 0 rfl rfl (Nat.mod_lt _ (by decide)) (by omega) (hq_by_nar _) rfl dX0_letter_9 (fun H locs hP hD hS => ?_)
  exact hq_vret hx hb hr hlocks dX0_letter_10 hK hP hD hS () trivial ⟨by decide, by decide⟩ [0, 1, 2, 3] rfl (by decide) [0, 1, 2] rfl
set_option maxHeartbeats 4000000 in
set_option maxRecDepth 100000 in
/-- letter(i): one letter -/
theorem metX0_letter_2 (l : Launch) (D : va_G) (a0 a1 a2 a3 : Nat) (dB dL dR : ClassId) (sz : Nat) (fl : Nat → Int32) (fw : Nat → Int64) (fr : Nat → Int32) (cn : Nat) (i0 : Int32) :
    hq_Mi (S := Unit) l yX0_letter_2 cX0_letter_2 2 .int ({ frames := 0, cells := 0, slots := 0, locals := 0 }) D [.ref a0, .int i0] sz [(a0, .inr (0, [.ref a1, .ref a2, .ref a3, .int (nI cn)])), (a1, .inl (dB, 4, .inl fl)), (a2, .inl (dL, 24, .inr (.inl fw))), (a3, .inl (dR, 4, .inl fr))] [(dB, .byte), (dL, .long), (dR, .byte)] (fun r _ => r = fl (i0.toBitVec.toNat % 4) &&& nI 255) (fun _ => [(a0, .inr (0, [.ref a1, .ref a2, .ref a3, .int (nI cn)])), (a1, .inl (dB, 4, .inl fl)), (a2, .inl (dL, 24, .inr (.inl fw))), (a3, .inl (dR, 4, .inl fr))]) (fun _ => [(dB, .byte), (dL, .long), (dR, .byte)]) := by
  refine hq_startI (by decide) (Nat.le_of_ble_eq_true rfl) ?_
  intro p e s m below meth c A ls hx hb hr hml hown hlocks hname hts hK hP hD hS hA hl
  have hown : s.vm.findClass RX0 = some m.cls := hown
  have hl : lv_has ls 2 [(0, .ref a0), (1, .int i0)] := hl
  refine lv_aload_n hx hb dX0_letter_2_0 rfl (lv_at hl 0 rfl) ?_
  refine va_get (D := D) (ci := 0) (v := .ref a1) (C := RX0) (T := TX0) (N := 4) hx hb hts in_X0 hown hK hP 0 rfl rfl 0 (by decide) (hts _ q15) (fun _ h9 => h9) rfl dX0_letter_2_1 ?_
  refine lv_iload_n hx hb dX0_letter_2_4 rfl (lv_at hl 1 rfl) ?_
  refine lv_iconst (v := nI 3) hx hb dX0_letter_2_5 (by decide) ?_
  refine lv_iand hx hb dX0_letter_2_6 ?_
  refine hq_ti (nI (i0.toBitVec.toNat % 4)) (hq_and3 _) ?_
  refine hq_rb hx hb hK hP 1 0 rfl rfl (Nat.mod_lt _ (by decide)) (by omega) dX0_letter_2_7 ?_
  refine lv_sipush (v := nI 255) hx hb dX0_letter_2_8 (by decide) ?_
  refine lv_iand hx hb dX0_letter_2_11 ?_
  exact hq_iret hx hb hr hlocks dX0_letter_2_12 hK hP hD hS () rfl ⟨by decide, by decide⟩ [0, 1, 2, 3] rfl (by decide) [0, 1, 2] rfl
set_option maxHeartbeats 4000000 in
set_option maxRecDepth 100000 in
theorem hq_x0wL {p : Program} {l : Launch} {e : Env} {R : Room} {s : State} {m : MethodId} {args : Array Value} {below : List Frame} {meth : Method} {c : Code} {cells slots : Nat} {Q : State → Prop} {D : va_G} {A : Nat → Prop} {H0 : Heap} {a0 a1 a2 a3 : Nat} {dB dL dR : ClassId} {fl fr : Nat → Int32} {cn : Nat} (hx : p.tables.exec = Jvm.exec) (hb : c.code = cX0_write) (hml : c.maxLocals = 2) (hown : s.vm.findClass RX0 = some m.cls) (hts : ∀ w ∈ lw_all, w.before args s = true) (hA : ∀ q : Nat, H0.size ≤ q → A q)
    (ex : ∀ (fw : Nat → Int64), True → hq_At p l e R s m args below meth c cells slots Q D A H0 2 [(dB, .byte), (dL, .long), (dR, .byte)] [(a0, .inr (0, [.ref a1, .ref a2, .ref a3, .int (nI cn)])), (a1, .inl (dB, 4, .inl fl)), (a2, .inl (dL, 24, .inr (.inl fw))), (a3, .inl (dR, 4, .inl fr))] [(1, .int (nI 24)), (0, .ref a0)] 24) :
    ∀ (n i : Nat), i + n = 24 → ∀ (fw : Nat → Int64), True → hq_At p l e R s m args below meth c cells slots Q D A H0 2 [(dB, .byte), (dL, .long), (dR, .byte)] [(a0, .inr (0, [.ref a1, .ref a2, .ref a3, .int (nI cn)])), (a1, .inl (dB, 4, .inl fl)), (a2, .inl (dL, 24, .inr (.inl fw))), (a3, .inl (dR, 4, .inl fr))] [(1, .int (nI i)), (0, .ref a0)] 2 := by
  intro n
  induction n with
  | zero =>
    intro i hn fw hv H locs ls hK hP hD hS hl
    obtain rfl : i = 24 := by omega
    refine lv_iload_n hx hb dX0_write_2 rfl (lv_at hl 0 rfl) ?_
    refine lv_aload_n hx hb dX0_write_3 rfl (lv_at hl 1 rfl) ?_
    refine va_get (D := D) (ci := 0) (v := .ref a2) (C := RX0) (T := TX0) (N := 4) hx hb hts in_X0 hown hK hP 0 rfl rfl 1 (by decide) (hts _ q16) (fun _ h9 => h9) rfl dX0_write_4 ?_
    refine hq_alen hx hb hK hP 2 1 rfl rfl dX0_write_7 ?_
    refine hq_geT (tgt := 24) hx hb dX0_write_8 (by decide) (Nat.le_refl _) (by omega) ?_
    exact ex fw trivial _ _ _ hK hP hD hS hl
  | succ n ih =>
    intro i hn fw hv H locs ls hK hP hD hS hl
    refine lv_iload_n hx hb dX0_write_2 rfl (lv_at hl 0 rfl) ?_
    refine lv_aload_n hx hb dX0_write_3 rfl (lv_at hl 1 rfl) ?_
    refine va_get (D := D) (ci := 0) (v := .ref a2) (C := RX0) (T := TX0) (N := 4) hx hb hts in_X0 hown hK hP 0 rfl rfl 1 (by decide) (hts _ q16) (fun _ h9 => h9) rfl dX0_write_4 ?_
    refine hq_alen hx hb hK hP 2 1 rfl rfl dX0_write_7 ?_
    refine hq_geF (tgt := 24) hx hb dX0_write_8 (by decide) (by omega) (by omega) ?_
    refine lv_aload_n hx hb dX0_write_11 rfl (lv_at hl 1 rfl) ?_
    refine va_get (D := D) (ci := 0) (v := .ref a2) (C := RX0) (T := TX0) (N := 4) hx hb hts in_X0 hown hK hP 0 rfl rfl 1 (by decide) (hts _ q16) (fun _ h9 => h9) rfl dX0_write_12 ?_
    refine lv_iload_n hx hb dX0_write_15 rfl (lv_at hl 0 rfl) ?_
    refine lv_lconst (v := 0) hx hb dX0_write_16 (by decide) ?_
    refine hq_sl (ws' := [(a0, .inr (0, [.ref a1, .ref a2, .ref a3, .int (nI cn)])), (a1, .inl (dB, 4, .inl fl)), (a2, .inl (dL, 24, .inr (.inl (vp_updL fw i 0)))), (a3, .inl (dR, 4, .inl fr))]) hx hb hK hP hD hS 2 1 rfl rfl (by omega) (by omega) rfl dX0_write_17 (fun H locs hP hD hS => ?_)
    refine hq_inc (a := i) (d := 1) (lv' := [(1, .int (nI (i + 1))), (0, .ref a0)]) hx hb dX0_write_18 hl (k := 0) rfl (by decide) (by decide) rfl (fun ls hl => ?_)
    refine lv_goto (tgt := 2) hx hb dX0_write_21 (by decide) ?_
    exact ih (i + 1) (by omega) _ trivial _ _ _ hK hP hD hS hl
set_option maxHeartbeats 4000000 in
set_option maxRecDepth 100000 in
/-- write(): the word is that of the letters -/
theorem metX0_write (l : Launch) (D : va_G) (a0 a1 a2 a3 : Nat) (dB dL dR : ClassId) (sz : Nat) (fl : Nat → Int32) (fw : Nat → Int64) (fr : Nat → Int32) (cn : Nat) (vl : Nat → Nat) (hfl : ∀ j, j < 4 → fl j = hq_by (vl j)) :
    hq_Mv (S := Nat → Int64) l yX0_write cX0_write 2 ({ frames := 3, cells := 1, slots := 4, locals := 73 }) D [.ref a0] sz [(a0, .inr (0, [.ref a1, .ref a2, .ref a3, .int (nI cn)])), (a1, .inl (dB, 4, .inl fl)), (a2, .inl (dL, 24, .inr (.inl fw))), (a3, .inl (dR, 4, .inl fr))] [(dB, .byte), (dL, .long), (dR, .byte)] (fun g => ∀ k, k < 1536 → hq_bl g k = hq_rm (vl (k / 384)) (k % 128)) (fun g => [(a0, .inr (0, [.ref a1, .ref a2, .ref a3, .int (nI 0)])), (a1, .inl (dB, 4, .inl fl)), (a2, .inl (dL, 24, .inr (.inl g))), (a3, .inl (dR, 4, .inl fr))]) (fun _ => [(dB, .byte), (dL, .long), (dR, .byte)]) := by
  refine hq_startV (by decide) (Nat.le_of_ble_eq_true rfl) ?_
  intro p e s m below meth c A ls hx hb hr hml hown hlocks hname hts hK hP hD hS hA hl
  have hown : s.vm.findClass RX0 = some m.cls := hown
  have hl : lv_has ls 2 [(0, .ref a0)] := hl
  refine lv_iconst (v := nI 0) hx hb dX0_write_0 (by decide) ?_
  refine lv_istore_n (lv' := [(1, .int (nI 0)), (0, .ref a0)]) hx hb dX0_write_1 rfl hl (by decide) rfl (fun ls hl => ?_)
  refine hq_x0wL hx hb hml hown hts hA (fun fw hv H locs ls hK hP hD hS hl => ?_) 24 0 rfl fw trivial _ _ _ hK hP hD hS hl
  refine lv_aload_n hx hb dX0_write_24 rfl (lv_at hl 1 rfl) ?_
  refine va_get (D := D) (ci := 0) (v := .ref a2) (C := RX0) (T := TX0) (N := 4) hx hb hts in_X0 hown hK hP 0 rfl rfl 1 (by decide) (hts _ q16) (fun _ h9 => h9) rfl dX0_write_25 ?_
  refine lv_aload_n hx hb dX0_write_28 rfl (lv_at hl 1 rfl) ?_
  refine va_get (D := D) (ci := 0) (v := .ref a1) (C := RX0) (T := TX0) (N := 4) hx hb hts in_X0 hown hK hP 0 rfl rfl 0 (by decide) (hts _ q15) (fun _ h9 => h9) rfl dX0_write_29 ?_
  refine lv_iconst (v := nI 4) hx hb dX0_write_32 (by decide) ?_
  refine lv_iconst (v := nI 3) hx hb dX0_write_33 (by decide) ?_
  refine hq_callSv (As := [.ref a2, .ref a1, .int (nI 4), .int (nI 3)]) (rest := []) (wr := [(a0, .inr (0, [.ref a1, .ref a2, .ref a3, .int (nI cn)])), (a3, .inl (dR, 4, .inl fr))]) (tr := [(dR, .byte)]) (cells' := 1) (slots' := 4) ⟨hx, hb, hml, hown, hts⟩ (metX2_encode l D a2 a1 dL dB _ fw fl vl hfl) 4 q38 q39 q4 q40 (by decide +kernel) rfl ⟨by decide, by decide⟩ ⟨by decide, by decide⟩ ⟨Nat.le_refl _, Nat.le_refl _⟩ hl rfl (Nat.le_of_ble_eq_true rfl) dX0_write_34 hK hP hD hS hA [2, 1] [0, 3] rfl rfl (by decide) (by decide) (by decide) [1, 0] [2] rfl rfl (fun g H locs hw hK hP hD hS => ?_)
  have hP : va_P D vwCl [(a0, .inr (0, [.ref a1, .ref a2, .ref a3, .int (nI cn)])), (a3, .inl (dR, 4, .inl fr)), (a2, .inl (dL, 24, .inr (.inl g))), (a1, .inl (dB, 4, .inl fl))] H := hP
  have hD : va_D A [(a0, .inr (0, [.ref a1, .ref a2, .ref a3, .int (nI cn)])), (a3, .inl (dR, 4, .inl fr)), (a2, .inl (dL, 24, .inr (.inl g))), (a1, .inl (dB, 4, .inl fl))] := hD
  have hK : va_K D vwCl [(dR, .byte), (dL, .long), (dB, .byte)] s := hK
  refine lv_aload_n hx hb dX0_write_37 rfl (lv_at hl 1 rfl) ?_
  refine lv_iconst (v := nI 0) hx hb dX0_write_38 (by decide) ?_
  refine va_put (D := D) (ci := 0) (v := .int (nI 0)) (ty := .int) (C := RX0) (T := TX0) (N := 4) hx hb hts in_X0 tyX0 tyX0_ok nmX0 hown hK hP hD hS 0 rfl rfl 3 (by decide) (hts _ q18) (fun _ h9 => h9) rfl (by decide +kernel) rfl rfl (Nat.le_of_ble_eq_true rfl) dX0_write_39 (fun H locs hP hD hS => ?_)
  have hP : va_P D vwCl [(a0, .inr (0, [.ref a1, .ref a2, .ref a3, .int (nI 0)])), (a3, .inl (dR, 4, .inl fr)), (a2, .inl (dL, 24, .inr (.inl g))), (a1, .inl (dB, 4, .inl fl))] H := hP
  have hD : va_D A [(a0, .inr (0, [.ref a1, .ref a2, .ref a3, .int (nI 0)])), (a3, .inl (dR, 4, .inl fr)), (a2, .inl (dL, 24, .inr (.inl g))), (a1, .inl (dB, 4, .inl fl))] := hD
  exact hq_vret hx hb hr hlocks dX0_write_42 hK hP hD hS g hw ⟨by decide, by decide⟩ [0, 3, 2, 1] rfl (by decide) [2, 1, 0] rfl
theorem hq_fl_bl {fw : Nat → Int64} {q : Nat} (hq : q < 1536) : ∀ k, k < 1536 → hq_bl (vp_updL fw (q / 64) (fw (q / 64) ^^^ ((1 : Int64) <<< ((nI (q % 64)).toInt64 &&& 63)))) k = (hq_bl fw k ^^ decide (k = q)) := by
  intro k hk
  unfold hq_bl vp_updL
  by_cases e : k / 64 = q / 64
  · rw [if_pos e, hq_flipw _ (Nat.mod_lt _ (by decide)) (Nat.mod_lt _ (by decide)), e]
    congr 1
    exact decide_eq_decide.mpr ⟨fun z => by omega, fun z => by rw [z]⟩
  · rw [if_neg e, decide_eq_false (fun z => e (by rw [z])), Bool.xor_false]
set_option maxHeartbeats 4000000 in
set_option maxRecDepth 100000 in
/-- harm(at): under forty, one place is turned -/
theorem metX0_harm (l : Launch) (D : va_G) (a0 a1 a2 a3 : Nat) (dB dL dR : ClassId) (sz : Nat) (fl : Nat → Int32) (fw : Nat → Int64) (fr : Nat → Int32) (cn : Nat) (x0 : Int32) (hcn : cn ≤ 40) :
    hq_Mi (S := (Nat → Int64) × Nat) l yX0_harm cX0_harm 3 .boolean ({ frames := 0, cells := 0, slots := 0, locals := 0 }) D [.ref a0, .int x0] sz [(a0, .inr (0, [.ref a1, .ref a2, .ref a3, .int (nI cn)])), (a1, .inl (dB, 4, .inl fl)), (a2, .inl (dL, 24, .inr (.inl fw))), (a3, .inl (dR, 4, .inl fr))] [(dB, .byte), (dL, .long), (dR, .byte)] (fun r u => if cn < 40 then r = nI 1 ∧ u.2 = cn + 1 ∧ (∀ k, k < 1536 → hq_bl u.1 k = (hq_bl fw k ^^ decide (k = hq_sp x0))) else r = nI 0 ∧ u.2 = cn ∧ u.1 = fw) (fun u => [(a0, .inr (0, [.ref a1, .ref a2, .ref a3, .int (nI u.2)])), (a1, .inl (dB, 4, .inl fl)), (a2, .inl (dL, 24, .inr (.inl u.1))), (a3, .inl (dR, 4, .inl fr))]) (fun _ => [(dB, .byte), (dL, .long), (dR, .byte)]) := by
  refine hq_startI (by decide) (Nat.le_of_ble_eq_true rfl) ?_
  intro p e s m below meth c A ls hx hb hr hml hown hlocks hname hts hK hP hD hS hA hl
  have hown : s.vm.findClass RX0 = some m.cls := hown
  have hl : lv_has ls 3 [(0, .ref a0), (1, .int x0)] := hl
  have hsp := hq_sp_lt x0
  by_cases hlt : cn < 40
  · refine lv_aload_n hx hb dX0_harm_0 rfl (lv_at hl 0 rfl) ?_
    refine va_get (D := D) (ci := 0) (v := .int (nI cn)) (C := RX0) (T := TX0) (N := 4) hx hb hts in_X0 hown hK hP 0 rfl rfl 3 (by decide) (hts _ q18) (fun _ h9 => h9) rfl dX0_harm_1 ?_
    refine lv_bipush (v := nI 40) hx hb dX0_harm_4 (by decide) ?_
    refine lv_icmp_lt (tgt := 11) hx hb dX0_harm_6 (by decide) (fun _ => ?_) (fun hz => absurd (nI_lt hlt (by omega)) hz)
    refine lv_iload_n hx hb dX0_harm_11 rfl (lv_at hl 1 rfl) ?_
    refine lv_ldc hx hb hown (hts _ q58) dX0_harm_12 ?_
    refine lv_iand hx hb dX0_harm_14 ?_
    refine lv_aload_n hx hb dX0_harm_15 rfl (lv_at hl 0 rfl) ?_
    refine va_get (D := D) (ci := 0) (v := .ref a2) (C := RX0) (T := TX0) (N := 4) hx hb hts in_X0 hown hK hP 0 rfl rfl 1 (by decide) (hts _ q16) (fun _ h9 => h9) rfl dX0_harm_16 ?_
    refine hq_alen hx hb hK hP 2 1 rfl rfl dX0_harm_19 ?_
    refine lv_bipush (v := nI 64) hx hb dX0_harm_20 (by decide) ?_
    refine hq_mul hx hb dX0_harm_22 ?_
    refine lv_irem hx hb dX0_harm_23 (by decide) ?_
    refine hq_ti (nI (hq_sp x0)) (hq_spot x0) ?_
    refine lv_istore_n (lv' := [(2, .int (nI (hq_sp x0))), (0, .ref a0), (1, .int x0)]) hx hb dX0_harm_24 rfl hl (by decide) rfl (fun ls hl => ?_)
    refine lv_aload_n hx hb dX0_harm_25 rfl (lv_at hl 1 rfl) ?_
    refine va_get (D := D) (ci := 0) (v := .ref a2) (C := RX0) (T := TX0) (N := 4) hx hb hts in_X0 hown hK hP 0 rfl rfl 1 (by decide) (hts _ q16) (fun _ h9 => h9) rfl dX0_harm_26 ?_
    refine lv_iload_n hx hb dX0_harm_29 rfl (lv_at hl 0 rfl) ?_
    refine lv_bipush (v := nI 6) hx hb dX0_harm_30 (by decide) ?_
    refine lv_ishr hx hb dX0_harm_32 ?_
    refine hq_ti (nI (hq_sp x0 / 64)) (hq_k6 hsp) ?_
    refine lv_dup2_11 hx hb dX0_harm_33 rfl rfl ?_
    refine hq_rl hx hb hK hP 2 1 rfl rfl (by omega) (by omega) dX0_harm_34 ?_
    refine lv_lconst (v := 1) hx hb dX0_harm_35 (by decide) ?_
    refine lv_iload_n hx hb dX0_harm_36 rfl (lv_at hl 0 rfl) ?_
    refine lv_bipush (v := nI 63) hx hb dX0_harm_37 (by decide) ?_
    refine lv_iand hx hb dX0_harm_39 ?_
    refine hq_ti (nI (hq_sp x0 % 64)) (hq_k63 hsp) ?_
    refine lv_lshl hx hb dX0_harm_40 rfl ?_
    refine lv_lxor hx hb dX0_harm_41 ?_
    refine hq_sl (ws' := [(a0, .inr (0, [.ref a1, .ref a2, .ref a3, .int (nI cn)])), (a1, .inl (dB, 4, .inl fl)), (a2, .inl (dL, 24, .inr (.inl (vp_updL fw (hq_sp x0 / 64) ((fw (hq_sp x0 / 64)) ^^^ (1 <<< ((nI (hq_sp x0 % 64)).toInt64 &&& 63))))))), (a3, .inl (dR, 4, .inl fr))]) hx hb hK hP hD hS 2 1 rfl rfl (by omega) (by omega) rfl dX0_harm_42 (fun H locs hP hD hS => ?_)
    refine lv_aload_n hx hb dX0_harm_43 rfl (lv_at hl 1 rfl) ?_
    refine lv_dup hx hb dX0_harm_44 rfl ?_
    refine va_get (D := D) (ci := 0) (v := .int (nI cn)) (C := RX0) (T := TX0) (N := 4) hx hb hts in_X0 hown hK hP 0 rfl rfl 3 (by decide) (hts _ q18) (fun _ h9 => h9) rfl dX0_harm_45 ?_
    refine lv_iconst (v := nI 1) hx hb dX0_harm_48 (by decide) ?_
    refine hq_add hx hb dX0_harm_49 ?_
    refine va_put (D := D) (ci := 0) (v := .int (nI (cn + 1))) (ty := .int) (C := RX0) (T := TX0) (N := 4) hx hb hts in_X0 tyX0 tyX0_ok nmX0 hown hK hP hD hS 0 rfl rfl 3 (by decide) (hts _ q18) (fun _ h9 => h9) rfl (by decide +kernel) rfl rfl (Nat.le_of_ble_eq_true rfl) dX0_harm_50 (fun H locs hP hD hS => ?_)
    have hP : va_P D vwCl [(a0, .inr (0, [.ref a1, .ref a2, .ref a3, .int (nI (cn + 1))])), (a1, .inl (dB, 4, .inl fl)), (a2, .inl (dL, 24, .inr (.inl (vp_updL fw (hq_sp x0 / 64) ((fw (hq_sp x0 / 64)) ^^^ (1 <<< ((nI (hq_sp x0 % 64)).toInt64 &&& 63))))))), (a3, .inl (dR, 4, .inl fr))] H := hP
    have hD : va_D A [(a0, .inr (0, [.ref a1, .ref a2, .ref a3, .int (nI (cn + 1))])), (a1, .inl (dB, 4, .inl fl)), (a2, .inl (dL, 24, .inr (.inl (vp_updL fw (hq_sp x0 / 64) ((fw (hq_sp x0 / 64)) ^^^ (1 <<< ((nI (hq_sp x0 % 64)).toInt64 &&& 63))))))), (a3, .inl (dR, 4, .inl fr))] := hD
    refine lv_iconst (v := nI 1) hx hb dX0_harm_53 (by decide) ?_
    exact hq_zret hx hb hr hlocks dX0_harm_54 (by decide) hK hP hD hS ((vp_updL fw (hq_sp x0 / 64) ((fw (hq_sp x0 / 64)) ^^^ (1 <<< ((nI (hq_sp x0 % 64)).toInt64 &&& 63)))), cn + 1) (by rw [if_pos hlt]; exact ⟨rfl, rfl, hq_fl_bl hsp⟩) ⟨by decide, by decide⟩ [0, 1, 2, 3] rfl (by decide) [0, 1, 2] rfl
  · refine lv_aload_n hx hb dX0_harm_0 rfl (lv_at hl 0 rfl) ?_
    refine va_get (D := D) (ci := 0) (v := .int (nI cn)) (C := RX0) (T := TX0) (N := 4) hx hb hts in_X0 hown hK hP 0 rfl rfl 3 (by decide) (hts _ q18) (fun _ h9 => h9) rfl dX0_harm_1 ?_
    refine lv_bipush (v := nI 40) hx hb dX0_harm_4 (by decide) ?_
    refine lv_icmp_lt (tgt := 11) hx hb dX0_harm_6 (by decide) (fun hz => absurd hz (nI_nlt (Nat.le_of_not_lt hlt) (by omega))) (fun _ => ?_)
    refine lv_iconst (v := nI 0) hx hb dX0_harm_9 (by decide) ?_
    exact hq_zret hx hb hr hlocks dX0_harm_10 (by decide) hK hP hD hS (fw, cn) (by rw [if_neg hlt]; exact ⟨rfl, rfl, rfl⟩) ⟨by decide, by decide⟩ [0, 1, 2, 3] rfl (by decide) [0, 1, 2] rfl
set_option maxHeartbeats 4000000 in
set_option maxRecDepth 100000 in
/-- bit(at): one place of the word -/
theorem metX0_bit (l : Launch) (D : va_G) (a0 a1 a2 a3 : Nat) (dB dL dR : ClassId) (sz : Nat) (fl : Nat → Int32) (fw : Nat → Int64) (fr : Nat → Int32) (cn : Nat) (x0 : Int32) :
    hq_Mi (S := Unit) l yX0_bit cX0_bit 3 .int ({ frames := 0, cells := 0, slots := 0, locals := 0 }) D [.ref a0, .int x0] sz [(a0, .inr (0, [.ref a1, .ref a2, .ref a3, .int (nI cn)])), (a1, .inl (dB, 4, .inl fl)), (a2, .inl (dL, 24, .inr (.inl fw))), (a3, .inl (dR, 4, .inl fr))] [(dB, .byte), (dL, .long), (dR, .byte)] (fun r _ => r = hq_i (hq_bl fw (hq_sp x0))) (fun _ => [(a0, .inr (0, [.ref a1, .ref a2, .ref a3, .int (nI cn)])), (a1, .inl (dB, 4, .inl fl)), (a2, .inl (dL, 24, .inr (.inl fw))), (a3, .inl (dR, 4, .inl fr))]) (fun _ => [(dB, .byte), (dL, .long), (dR, .byte)]) := by
  refine hq_startI (by decide) (Nat.le_of_ble_eq_true rfl) ?_
  intro p e s m below meth c A ls hx hb hr hml hown hlocks hname hts hK hP hD hS hA hl
  have hown : s.vm.findClass RX0 = some m.cls := hown
  have hl : lv_has ls 3 [(0, .ref a0), (1, .int x0)] := hl
  have hsp := hq_sp_lt x0
  refine lv_iload_n hx hb dX0_bit_0 rfl (lv_at hl 1 rfl) ?_
  refine lv_ldc hx hb hown (hts _ q58) dX0_bit_1 ?_
  refine lv_iand hx hb dX0_bit_3 ?_
  refine lv_aload_n hx hb dX0_bit_4 rfl (lv_at hl 0 rfl) ?_
  refine va_get (D := D) (ci := 0) (v := .ref a2) (C := RX0) (T := TX0) (N := 4) hx hb hts in_X0 hown hK hP 0 rfl rfl 1 (by decide) (hts _ q16) (fun _ h9 => h9) rfl dX0_bit_5 ?_
  refine hq_alen hx hb hK hP 2 1 rfl rfl dX0_bit_8 ?_
  refine lv_bipush (v := nI 64) hx hb dX0_bit_9 (by decide) ?_
  refine hq_mul hx hb dX0_bit_11 ?_
  refine lv_irem hx hb dX0_bit_12 (by decide) ?_
  refine hq_ti (nI (hq_sp x0)) (hq_spot x0) ?_
  refine lv_istore_n (lv' := [(2, .int (nI (hq_sp x0))), (0, .ref a0), (1, .int x0)]) hx hb dX0_bit_13 rfl hl (by decide) rfl (fun ls hl => ?_)
  refine lv_aload_n hx hb dX0_bit_14 rfl (lv_at hl 1 rfl) ?_
  refine va_get (D := D) (ci := 0) (v := .ref a2) (C := RX0) (T := TX0) (N := 4) hx hb hts in_X0 hown hK hP 0 rfl rfl 1 (by decide) (hts _ q16) (fun _ h9 => h9) rfl dX0_bit_15 ?_
  refine lv_iload_n hx hb dX0_bit_18 rfl (lv_at hl 0 rfl) ?_
  refine lv_bipush (v := nI 6) hx hb dX0_bit_19 (by decide) ?_
  refine lv_ishr hx hb dX0_bit_21 ?_
  refine hq_ti (nI (hq_sp x0 / 64)) (hq_k6 hsp) ?_
  refine hq_rl hx hb hK hP 2 1 rfl rfl (by omega) (by omega) dX0_bit_22 ?_
  refine lv_iload_n hx hb dX0_bit_23 rfl (lv_at hl 0 rfl) ?_
  refine lv_bipush (v := nI 63) hx hb dX0_bit_24 (by decide) ?_
  refine lv_iand hx hb dX0_bit_26 ?_
  refine hq_ti (nI (hq_sp x0 % 64)) (hq_k63 hsp) ?_
  refine lv_lushr hx hb dX0_bit_27 rfl ?_
  refine lv_l2i hx hb dX0_bit_28 rfl ?_
  refine lv_iconst (v := nI 1) hx hb dX0_bit_29 (by decide) ?_
  refine lv_iand hx hb dX0_bit_30 ?_
  refine hq_ti (hq_i (hq_bl fw (hq_sp x0))) (hq_bitw _ (Nat.mod_lt _ (by decide))) ?_
  exact hq_iret hx hb hr hlocks dX0_bit_31 hK hP hD hS () rfl ⟨by decide, by decide⟩ [0, 1, 2, 3] rfl (by decide) [0, 1, 2] rfl
set_option maxHeartbeats 4000000 in
set_option maxRecDepth 100000 in
theorem hq_x0rL {p : Program} {l : Launch} {e : Env} {R : Room} {s : State} {m : MethodId} {args : Array Value} {below : List Frame} {meth : Method} {c : Code} {cells slots : Nat} {Q : State → Prop} {D : va_G} {A : Nat → Prop} {H0 : Heap} {a0 a1 a2 a3 v : Nat} {dB dL dR dv : ClassId} {fl fr : Nat → Int32} {fw : Nat → Int64} {cn : Nat} (hx : p.tables.exec = Jvm.exec) (hb : c.code = cX0_read) (hml : c.maxLocals = 4) (hown : s.vm.findClass RX0 = some m.cls) (hts : ∀ w ∈ lw_all, w.before args s = true) (hA : ∀ q : Nat, H0.size ≤ q → A q)
    (ex : ∀ (gw : Nat → Int64), (∀ j, j < 24 → gw j = fw j) → hq_At p l e R s m args below meth c cells slots Q D A H0 4 [(dB, .byte), (dL, .long), (dR, .byte), (dv, .long)] [(a0, .inr (0, [.ref a1, .ref a2, .ref a3, .int (nI cn)])), (a1, .inl (dB, 4, .inl fl)), (a2, .inl (dL, 24, .inr (.inl fw))), (a3, .inl (dR, 4, .inl fr)), (v, .inl (dv, 24, .inr (.inl gw)))] [(2, .int (nI 24)), (1, .ref v), (0, .ref a0)] 31) :
    ∀ (n i : Nat), i + n = 24 → ∀ (gw : Nat → Int64), (∀ j, j < i → gw j = fw j) → hq_At p l e R s m args below meth c cells slots Q D A H0 4 [(dB, .byte), (dL, .long), (dR, .byte), (dv, .long)] [(a0, .inr (0, [.ref a1, .ref a2, .ref a3, .int (nI cn)])), (a1, .inl (dB, 4, .inl fl)), (a2, .inl (dL, 24, .inr (.inl fw))), (a3, .inl (dR, 4, .inl fr)), (v, .inl (dv, 24, .inr (.inl gw)))] [(2, .int (nI i)), (1, .ref v), (0, .ref a0)] 10 := by
  intro n
  induction n with
  | zero =>
    intro i hn gw hv H locs ls hK hP hD hS hl
    obtain rfl : i = 24 := by omega
    refine lv_iload_n hx hb dX0_read_10 rfl (lv_at hl 0 rfl) ?_
    refine lv_aload_n hx hb dX0_read_11 rfl (lv_at hl 1 rfl) ?_
    refine hq_alen hx hb hK hP 4 3 rfl rfl dX0_read_12 ?_
    refine hq_geT (tgt := 31) hx hb dX0_read_13 (by decide) (Nat.le_refl _) (by omega) ?_
    exact ex gw hv _ _ _ hK hP hD hS hl
  | succ n ih =>
    intro i hn gw hv H locs ls hK hP hD hS hl
    refine lv_iload_n hx hb dX0_read_10 rfl (lv_at hl 0 rfl) ?_
    refine lv_aload_n hx hb dX0_read_11 rfl (lv_at hl 1 rfl) ?_
    refine hq_alen hx hb hK hP 4 3 rfl rfl dX0_read_12 ?_
    refine hq_geF (tgt := 31) hx hb dX0_read_13 (by decide) (by omega) (by omega) ?_
    refine lv_aload_n hx hb dX0_read_16 rfl (lv_at hl 1 rfl) ?_
    refine lv_iload_n hx hb dX0_read_17 rfl (lv_at hl 0 rfl) ?_
    refine lv_aload_n hx hb dX0_read_18 rfl (lv_at hl 2 rfl) ?_
    refine va_get (D := D) (ci := 0) (v := .ref a2) (C := RX0) (T := TX0) (N := 4) hx hb hts in_X0 hown hK hP 0 rfl rfl 1 (by decide) (hts _ q16) (fun _ h9 => h9) rfl dX0_read_19 ?_
    refine lv_iload_n hx hb dX0_read_22 rfl (lv_at hl 0 rfl) ?_
    refine hq_rl hx hb hK hP 2 1 rfl rfl (by omega) (by omega) dX0_read_23 ?_
    refine hq_sl (ws' := [(a0, .inr (0, [.ref a1, .ref a2, .ref a3, .int (nI cn)])), (a1, .inl (dB, 4, .inl fl)), (a2, .inl (dL, 24, .inr (.inl fw))), (a3, .inl (dR, 4, .inl fr)), (v, .inl (dv, 24, .inr (.inl (vp_updL gw i (fw i)))))]) hx hb hK hP hD hS 4 3 rfl rfl (by omega) (by omega) rfl dX0_read_24 (fun H locs hP hD hS => ?_)
    refine hq_inc (a := i) (d := 1) (lv' := [(2, .int (nI (i + 1))), (1, .ref v), (0, .ref a0)]) hx hb dX0_read_25 hl (k := 0) rfl (by decide) (by decide) rfl (fun ls hl => ?_)
    refine lv_goto (tgt := 10) hx hb dX0_read_28 (by decide) ?_
    exact ih (i + 1) (by omega) _ (fun j hj => by
      unfold vp_updL
      by_cases e : j = i
      · rw [if_pos e, e]
      · rw [if_neg e]
        exact hv j (by omega)) _ _ _ hK hP hD hS hl
set_option maxHeartbeats 4000000 in
set_option maxRecDepth 100000 in
theorem hq_x0rP {p : Program} {l : Launch} {e : Env} {R : Room} {s : State} {m : MethodId} {args : Array Value} {below : List Frame} {meth : Method} {c : Code} {cells slots : Nat} {Q : State → Prop} {D : va_G} {A : Nat → Prop} {H0 : Heap} {a0 a1 a2 a3 v : Nat} {dB dL dR dv : ClassId} {fl fr : Nat → Int32} {fw gw : Nat → Int64} {cn : Nat} {vl : Nat → Nat} (hx : p.tables.exec = Jvm.exec) (hb : c.code = cX0_read) (hml : c.maxLocals = 4) (hown : s.vm.findClass RX0 = some m.cls) (hts : ∀ w ∈ lw_all, w.before args s = true) (hA : ∀ q : Nat, H0.size ≤ q → A q) (hfr : ∀ j, j < 4 → fr j = hq_by (vl j)) (hvl : ∀ j, j < 4 → vl j < 256)
    (ex : True → hq_At p l e R s m args below meth c cells slots Q D A H0 4 [(dB, .byte), (dL, .long), (dR, .byte), (dv, .long)] [(a0, .inr (0, [.ref a1, .ref a2, .ref a3, .int (nI cn)])), (a1, .inl (dB, 4, .inl fl)), (a2, .inl (dL, 24, .inr (.inl fw))), (a3, .inl (dR, 4, .inl fr)), (v, .inl (dv, 24, .inr (.inl gw)))] [(3, .int (nI 4)), (2, .int (hq_pk vl 4)), (1, .ref v), (0, .ref a0)] 72) :
    ∀ (n i : Nat), i + n = 4 → True → hq_At p l e R s m args below meth c cells slots Q D A H0 4 [(dB, .byte), (dL, .long), (dR, .byte), (dv, .long)] [(a0, .inr (0, [.ref a1, .ref a2, .ref a3, .int (nI cn)])), (a1, .inl (dB, 4, .inl fl)), (a2, .inl (dL, 24, .inr (.inl fw))), (a3, .inl (dR, 4, .inl fr)), (v, .inl (dv, 24, .inr (.inl gw)))] [(3, .int (nI i)), (2, .int (hq_pk vl i)), (1, .ref v), (0, .ref a0)] 45 := by
  intro n
  induction n with
  | zero =>
    intro i hn  hv H locs ls hK hP hD hS hl
    obtain rfl : i = 4 := by omega
    refine lv_iload_n hx hb dX0_read_45 rfl (lv_at hl 0 rfl) ?_
    refine lv_iconst (v := nI 4) hx hb dX0_read_46 (by decide) ?_
    refine hq_geT (tgt := 72) hx hb dX0_read_47 (by decide) (Nat.le_refl _) (by omega) ?_
    exact ex trivial _ _ _ hK hP hD hS hl
  | succ n ih =>
    intro i hn  hv H locs ls hK hP hD hS hl
    refine lv_iload_n hx hb dX0_read_45 rfl (lv_at hl 0 rfl) ?_
    refine lv_iconst (v := nI 4) hx hb dX0_read_46 (by decide) ?_
    refine hq_geF (tgt := 72) hx hb dX0_read_47 (by decide) (by omega) (by omega) ?_
    refine lv_iload_n hx hb dX0_read_50 rfl (lv_at hl 1 rfl) ?_
    refine lv_bipush (v := nI 8) hx hb dX0_read_51 (by decide) ?_
    refine lv_ishl hx hb dX0_read_53 ?_
    refine lv_aload_n hx hb dX0_read_54 rfl (lv_at hl 3 rfl) ?_
    refine va_get (D := D) (ci := 0) (v := .ref a3) (C := RX0) (T := TX0) (N := 4) hx hb hts in_X0 hown hK hP 0 rfl rfl 2 (by decide) (hts _ q17) (fun _ h9 => h9) rfl dX0_read_55 ?_
    refine lv_iload_n hx hb dX0_read_58 rfl (lv_at hl 0 rfl) ?_
    refine hq_rb hx hb hK hP 3 2 rfl rfl (by omega) (by omega) dX0_read_59 ?_
    refine hq_ti (hq_by (vl i)) (hfr i (by omega)) ?_
    refine lv_sipush (v := nI 255) hx hb dX0_read_60 (by decide) ?_
    refine lv_iand hx hb dX0_read_63 ?_
    refine hq_ti (nI (vl i)) (hq_by_and (hvl i (by omega))) ?_
    refine lv_ior hx hb dX0_read_64 ?_
    refine hq_ti (hq_pk vl (i + 1)) (rfl) ?_
    refine lv_istore_n (lv' := [(2, .int (hq_pk vl (i + 1))), (3, .int (nI i)), (1, .ref v), (0, .ref a0)]) hx hb dX0_read_65 rfl hl (by decide) rfl (fun ls hl => ?_)
    refine hq_inc (a := i) (d := 1) (lv' := [(3, .int (nI (i + 1))), (2, .int (hq_pk vl (i + 1))), (1, .ref v), (0, .ref a0)]) hx hb dX0_read_66 hl (k := 1) rfl (by decide) (by decide) rfl (fun ls hl => ?_)
    refine lv_goto (tgt := 45) hx hb dX0_read_69 (by decide) ?_
    exact ih (i + 1) (by omega) trivial _ _ _ hK hP hD hS hl
set_option maxHeartbeats 4000000 in
set_option maxRecDepth 100000 in
/-- read(): of a word near the words of four letters, the letters in one number -/
theorem metX0_read (l : Launch) (D : va_G) (a0 a1 a2 a3 : Nat) (dB dL dR : ClassId) (sz : Nat) (fl : Nat → Int32) (fw : Nat → Int64) (fr : Nat → Int32) (cn : Nat) (vl : Nat → Nat) (hnear : hq_near (hq_bl fw) vl 40) :
    hq_Mi (S := Nat → Int32) l yX0_read cX0_read 4 .int ({ frames := 3, cells := 4, slots := 328, locals := 67 }) D [.ref a0] sz [(a0, .inr (0, [.ref a1, .ref a2, .ref a3, .int (nI cn)])), (a1, .inl (dB, 4, .inl fl)), (a2, .inl (dL, 24, .inr (.inl fw))), (a3, .inl (dR, 4, .inl fr))] [(dB, .byte), (dL, .long), (dR, .byte)] (fun r _ => r = hq_pk vl 4) (fun g => [(a0, .inr (0, [.ref a1, .ref a2, .ref a3, .int (nI cn)])), (a1, .inl (dB, 4, .inl fl)), (a2, .inl (dL, 24, .inr (.inl fw))), (a3, .inl (dR, 4, .inl g))]) (fun _ => [(dB, .byte), (dL, .long), (dR, .byte)]) := by
  refine hq_startI (by decide) (Nat.le_of_ble_eq_true rfl) ?_
  intro p e s m below meth c A ls hx hb hr hml hown hlocks hname hts hK hP hD hS hA hl
  have hown : s.vm.findClass RX0 = some m.cls := hown
  have hl : lv_has ls 4 [(0, .ref a0)] := hl
  refine lv_aload_n hx hb dX0_read_0 rfl (lv_at hl 0 rfl) ?_
  refine va_get (D := D) (ci := 0) (v := .ref a2) (C := RX0) (T := TX0) (N := 4) hx hb hts in_X0 hown hK hP 0 rfl rfl 1 (by decide) (hts _ q16) (fun _ h9 => h9) rfl dX0_read_1 ?_
  refine hq_alen hx hb hK hP 2 1 rfl rfl dX0_read_4 ?_
  refine va_newa (atype := .long) (ty := .long) (N' := 24) (a0 := (24, .inr (.inl (fun _ => 0)))) hx hb (hts _ q29) rfl hK hP hD hS hA (fun _ => rfl) (nI_pos (n := 24) (by omega)) (nI_clamp (n := 24) (by omega)) (Nat.le_of_ble_eq_true rfl) (by decide) (by decide) dX0_read_5 (fun v dv H hK hP hD hS => ?_)
  have hP : va_P D vwCl [(a0, .inr (0, [.ref a1, .ref a2, .ref a3, .int (nI cn)])), (a1, .inl (dB, 4, .inl fl)), (a2, .inl (dL, 24, .inr (.inl fw))), (a3, .inl (dR, 4, .inl fr)), (v, .inl (dv, 24, .inr (.inl (fun _ => 0))))] H := hP
  have hD : va_D A [(a0, .inr (0, [.ref a1, .ref a2, .ref a3, .int (nI cn)])), (a1, .inl (dB, 4, .inl fl)), (a2, .inl (dL, 24, .inr (.inl fw))), (a3, .inl (dR, 4, .inl fr)), (v, .inl (dv, 24, .inr (.inl (fun _ => 0))))] := hD
  have hK : va_K D vwCl [(dB, .byte), (dL, .long), (dR, .byte), (dv, .long)] s := hK
  refine W.widen (k := 1) (n := 24) (by decide) (by decide) ?_
  refine lv_astore_n (lv' := [(1, .ref v), (0, .ref a0)]) hx hb dX0_read_7 rfl hl (by decide) rfl (fun ls hl => ?_)
  refine lv_iconst (v := nI 0) hx hb dX0_read_8 (by decide) ?_
  refine lv_istore_n (lv' := [(2, .int (nI 0)), (1, .ref v), (0, .ref a0)]) hx hb dX0_read_9 rfl hl (by decide) rfl (fun ls hl => ?_)
  refine hq_x0rL hx hb hml hown hts hA (fun gw hv H locs ls hK hP hD hS hl => ?_) 24 0 rfl _ (fun j hj => absurd hj (by omega)) _ _ _ hK hP hD hS hl
  have hn2 : hq_near (hq_bl gw) vl 40 := hq_near_congr hnear (fun k hk => by unfold hq_bl; rw [hv (k / 64) (by omega)])
  refine lv_aload_n hx hb dX0_read_31 rfl (lv_at hl 2 rfl) ?_
  refine va_get (D := D) (ci := 0) (v := .ref a3) (C := RX0) (T := TX0) (N := 4) hx hb hts in_X0 hown hK hP 0 rfl rfl 2 (by decide) (hts _ q17) (fun _ h9 => h9) rfl dX0_read_32 ?_
  refine lv_aload_n hx hb dX0_read_35 rfl (lv_at hl 1 rfl) ?_
  refine lv_iconst (v := nI 4) hx hb dX0_read_36 (by decide) ?_
  refine lv_iconst (v := nI 3) hx hb dX0_read_37 (by decide) ?_
  refine hq_callSv (As := [.ref a3, .ref v, .int (nI 4), .int (nI 3)]) (rest := []) (wr := [(a0, .inr (0, [.ref a1, .ref a2, .ref a3, .int (nI cn)])), (a1, .inl (dB, 4, .inl fl)), (a2, .inl (dL, 24, .inr (.inl fw)))]) (tr := [(dB, .byte), (dL, .long)]) (cells' := 4) (slots' := 328) ⟨hx, hb, hml, hown, hts⟩ (metX2_decode l D a3 v dR dv _ fr gw vl hn2) 4 q67 q68 q4 q69 (by decide +kernel) rfl ⟨by decide, by decide⟩ ⟨by decide, by decide⟩ ⟨Nat.le_refl _, Nat.le_refl _⟩ hl rfl (Nat.le_of_ble_eq_true rfl) dX0_read_38 hK hP hD hS hA [3, 4] [0, 1, 2] rfl rfl (by decide) (by decide) (by decide) [2, 3] [0, 1] rfl rfl (fun g H locs hw hK hP hD hS => ?_)
  have hP : va_P D vwCl [(a0, .inr (0, [.ref a1, .ref a2, .ref a3, .int (nI cn)])), (a1, .inl (dB, 4, .inl fl)), (a2, .inl (dL, 24, .inr (.inl fw))), (a3, .inl (dR, 4, .inl g)), (v, .inl (dv, 24, .inr (.inl gw)))] H := hP
  have hD : va_D A [(a0, .inr (0, [.ref a1, .ref a2, .ref a3, .int (nI cn)])), (a1, .inl (dB, 4, .inl fl)), (a2, .inl (dL, 24, .inr (.inl fw))), (a3, .inl (dR, 4, .inl g)), (v, .inl (dv, 24, .inr (.inl gw)))] := hD
  have hK : va_K D vwCl [(dB, .byte), (dL, .long), (dR, .byte), (dv, .long)] s := hK
  refine lv_iconst (v := nI 0) hx hb dX0_read_41 (by decide) ?_
  refine lv_istore_n (lv' := [(2, .int (nI 0)), (1, .ref v), (0, .ref a0)]) hx hb dX0_read_42 rfl hl (by decide) rfl (fun ls hl => ?_)
  refine lv_iconst (v := nI 0) hx hb dX0_read_43 (by decide) ?_
  refine lv_istore_n (lv' := [(3, .int (nI 0)), (2, .int (nI 0)), (1, .ref v), (0, .ref a0)]) hx hb dX0_read_44 rfl hl (by decide) rfl (fun ls hl => ?_)
  refine hq_x0rP hx hb hml hown hts hA hw hnear.1 (fun hv H locs ls hK hP hD hS hl => ?_) 4 0 rfl trivial _ _ _ hK hP hD hS hl
  refine lv_iload_n hx hb dX0_read_72 rfl (lv_at hl 1 rfl) ?_
  exact hq_iret hx hb hr hlocks dX0_read_73 hK hP hD hS g rfl ⟨by decide, by decide⟩ [0, 1, 2, 3] rfl (by decide) [0, 1, 2] rfl
end
section
/-! CONTRACTS: InnerCodeModel -/
set_option maxRecDepth 100000
set_option maxHeartbeats 4000000 in
set_option maxRecDepth 100000 in
/-- InnerCodeModel(): two new arrays, all zero -/
theorem metX1_init (l : Launch) (D : va_G) (a0 sz : Nat) :
    hq_Mv (S := (Nat × Nat) × (ClassId × ClassId)) l yX1_init cX1_init 1 ({ frames := 1, cells := 2, slots := 1540, locals := 12 }) D [.ref a0] sz [(a0, .inr (1, [.null, .null, .int 0]))] [] (fun _ => True) (fun u => [(a0, .inr (1, [.ref u.1.1, .ref u.1.2, .int 0])), (u.1.1, .inl (u.2.1, 4, .inl (fun _ => 0))), (u.1.2, .inl (u.2.2, 1536, .inl (fun _ => 0)))]) (fun u => [(u.2.1, .int), (u.2.2, .boolean)]) := by
  refine hq_startV (by decide) (Nat.le_of_ble_eq_true rfl) ?_
  intro p e s m below meth c A ls hx hb hr hml hown hlocks hname hts hK hP hD hS hA hl
  have hown : s.vm.findClass RX1 = some m.cls := hown
  have hl : lv_has ls 1 [(0, .ref a0)] := hl
  refine lv_aload_n hx hb dX1_init_0 rfl (lv_at hl 0 rfl) ?_
  refine W.objInit hx hb hown (hts _ q94) (hts _ q13) (hts _ q14) rfl (by rw [hml]; exact hl.1) rfl dX1_init_1 (Nat.le_of_ble_eq_true rfl) (Nat.le_of_ble_eq_true rfl) ?_
  refine W.eq (g2 := F0 m 4 ls []) rfl ?_
  refine lv_aload_n hx hb dX1_init_4 rfl (lv_at hl 0 rfl) ?_
  refine lv_iconst (v := nI 4) hx hb dX1_init_5 (by decide) ?_
  refine va_newa (atype := .int) (ty := .int) (N' := 4) (a0 := (4, .inl (fun _ => 0))) hx hb (hts _ q53) rfl hK hP hD hS hA (fun _ => rfl) (nI_pos (n := 4) (by omega)) (nI_clamp (n := 4) (by omega)) (Nat.le_of_ble_eq_true rfl) (by decide) (by decide) dX1_init_6 (fun a1 dI H hK hP hD hS => ?_)
  have hP : va_P D vwCl [(a0, .inr (1, [.null, .null, .int 0])), (a1, .inl (dI, 4, .inl (fun _ => 0)))] H := hP
  have hD : va_D A [(a0, .inr (1, [.null, .null, .int 0])), (a1, .inl (dI, 4, .inl (fun _ => 0)))] := hD
  have hK : va_K D vwCl [(dI, .int)] s := hK
  refine W.widen (k := 1) (n := 4) (by decide) (by decide) ?_
  refine va_putF (D := D) (ci := 1) (v := .ref a1) (ty := (.array .int)) (C := RX1) (T := TX1) (N := 3) hx hb hts in_X1 tyX1 tyX1_ok nmX1 hown hK hP hD hS 0 rfl rfl 0 (by decide) (hts _ q95) (fun _ h9 => h9) rfl hname rfl (by decide +kernel) rfl rfl (Nat.le_of_ble_eq_true rfl) dX1_init_8 (fun H locs hP hD hS => ?_)
  have hP : va_P D vwCl [(a0, .inr (1, [.ref a1, .null, .int 0])), (a1, .inl (dI, 4, .inl (fun _ => 0)))] H := hP
  have hD : va_D A [(a0, .inr (1, [.ref a1, .null, .int 0])), (a1, .inl (dI, 4, .inl (fun _ => 0)))] := hD
  refine lv_aload_n hx hb dX1_init_11 rfl (lv_at hl 0 rfl) ?_
  refine lv_sipush (v := nI 1536) hx hb dX1_init_12 (by decide) ?_
  refine va_newa (atype := .boolean) (ty := .boolean) (N' := 1536) (a0 := (1536, .inl (fun _ => 0))) hx hb (hts _ q105) rfl hK hP hD hS hA (fun _ => rfl) (nI_pos (n := 1536) (by omega)) (nI_clamp (n := 1536) (by omega)) (Nat.le_of_ble_eq_true rfl) (by decide) (by decide) dX1_init_15 (fun a2 dZ H hK hP hD hS => ?_)
  have hP : va_P D vwCl [(a0, .inr (1, [.ref a1, .null, .int 0])), (a1, .inl (dI, 4, .inl (fun _ => 0))), (a2, .inl (dZ, 1536, .inl (fun _ => 0)))] H := hP
  have hD : va_D A [(a0, .inr (1, [.ref a1, .null, .int 0])), (a1, .inl (dI, 4, .inl (fun _ => 0))), (a2, .inl (dZ, 1536, .inl (fun _ => 0)))] := hD
  have hK : va_K D vwCl [(dI, .int), (dZ, .boolean)] s := hK
  refine W.widen (k := 2) (n := 1540) (by decide) (by decide) ?_
  refine va_putF (D := D) (ci := 1) (v := .ref a2) (ty := (.array .boolean)) (C := RX1) (T := TX1) (N := 3) hx hb hts in_X1 tyX1 tyX1_ok nmX1 hown hK hP hD hS 0 rfl rfl 1 (by decide) (hts _ q96) (fun _ h9 => h9) rfl hname rfl (by decide +kernel) rfl rfl (Nat.le_of_ble_eq_true rfl) dX1_init_17 (fun H locs hP hD hS => ?_)
  have hP : va_P D vwCl [(a0, .inr (1, [.ref a1, .ref a2, .int 0])), (a1, .inl (dI, 4, .inl (fun _ => 0))), (a2, .inl (dZ, 1536, .inl (fun _ => 0)))] H := hP
  have hD : va_D A [(a0, .inr (1, [.ref a1, .ref a2, .int 0])), (a1, .inl (dI, 4, .inl (fun _ => 0))), (a2, .inl (dZ, 1536, .inl (fun _ => 0)))] := hD
  exact hq_vret hx hb hr hlocks dX1_init_20 hK hP hD hS ((a1, a2), (dI, dZ)) trivial ⟨by decide, by decide⟩ [0, 1, 2] rfl (by decide) [0, 1] rfl
theorem hq_i1 : ∀ b : Bool, hq_i b = nI 1 ↔ b = true := by decide
theorem hq_iz0 : ∀ b : Bool, hq_i b = 0 ↔ b = false := by decide
set_option maxHeartbeats 4000000 in
set_option maxRecDepth 100000 in
theorem hq_plL {p : Program} {l : Launch} {e : Env} {R : Room} {s : State} {m : MethodId} {args : Array Value} {below : List Frame} {meth : Method} {c : Code} {cells slots : Nat} {Q : State → Prop} {D : va_G} {A : Nat → Prop} {H0 : Heap} {vn jn : Nat} (hx : p.tables.exec = Jvm.exec) (hb : c.code = cX1_place) 
    (ex : True → hq_At p l e R s m args below meth c cells slots Q D A H0 4 [] [] [(3, .int (nI 7)), (2, .int (hq_i (hq_rp vn jn 7))), (0, .int (nI vn)), (1, .int (nI jn))] 58) :
    ∀ (n i : Nat), i + n = 7 → True → hq_At p l e R s m args below meth c cells slots Q D A H0 4 [] [] [(3, .int (nI i)), (2, .int (hq_i (hq_rp vn jn i))), (0, .int (nI vn)), (1, .int (nI jn))] 18 := by
  intro n
  induction n with
  | zero =>
    intro i hn  hv H locs ls hK hP hD hS hl
    obtain rfl : i = 7 := by omega
    refine lv_iload_n hx hb dX1_place_18 rfl (lv_at hl 0 rfl) ?_
    refine lv_bipush (v := nI 7) hx hb dX1_place_19 (by decide) ?_
    refine hq_geT (tgt := 58) hx hb dX1_place_21 (by decide) (Nat.le_refl _) (by omega) ?_
    exact ex trivial _ _ _ hK hP hD hS hl
  | succ n ih =>
    intro i hn  hv H locs ls hK hP hD hS hl
    have er : hq_rp vn jn (i + 1) = (hq_rp vn jn i ^^ (vn.testBit i && jn.testBit i)) := rfl
    refine lv_iload_n hx hb dX1_place_18 rfl (lv_at hl 0 rfl) ?_
    refine lv_bipush (v := nI 7) hx hb dX1_place_19 (by decide) ?_
    refine hq_geF (tgt := 58) hx hb dX1_place_21 (by decide) (by omega) (by omega) ?_
    refine lv_iload_n hx hb dX1_place_24 rfl (lv_at hl 2 rfl) ?_
    refine lv_iload_n hx hb dX1_place_25 rfl (lv_at hl 0 rfl) ?_
    refine lv_ishr hx hb dX1_place_26 ?_
    refine lv_iconst (v := nI 1) hx hb dX1_place_27 (by decide) ?_
    refine lv_iand hx hb dX1_place_28 ?_
    refine hq_ti (hq_i (vn.testBit i)) (hq_vs1 vn (by omega)) ?_
    refine lv_iconst (v := nI 1) hx hb dX1_place_29 (by decide) ?_
    refine lv_icmp_ne (tgt := 52) hx hb dX1_place_30 (by decide) (fun hz => ?_) (fun hz => ?_)
    · have hv1 : vn.testBit i = false := by cases h : vn.testBit i <;> simp_all [hq_i1]
      have e2 : hq_rp vn jn (i + 1) = hq_rp vn jn i := by rw [er, hv1]; simp
      refine hq_inc (a := i) (d := 1) (lv' := [(3, .int (nI (i + 1))), (2, .int (hq_i (hq_rp vn jn i))), (0, .int (nI vn)), (1, .int (nI jn))]) hx hb dX1_place_52 hl (k := 0) rfl (by decide) (by decide) rfl (fun ls hl => ?_)
      refine lv_goto (tgt := 18) hx hb dX1_place_55 (by decide) ?_
      exact ih (i + 1) (by omega) trivial _ _ _ hK hP hD hS (by rw [e2]; exact lv_sub hl [0, 1, 2, 3] rfl)
    · have hv1 : vn.testBit i = true := (hq_i1 _).mp hz
      refine lv_iload_n hx hb dX1_place_33 rfl (lv_at hl 3 rfl) ?_
      refine lv_iload_n hx hb dX1_place_34 rfl (lv_at hl 0 rfl) ?_
      refine lv_ishr hx hb dX1_place_35 ?_
      refine lv_iconst (v := nI 1) hx hb dX1_place_36 (by decide) ?_
      refine lv_iand hx hb dX1_place_37 ?_
      refine hq_ti (hq_i (jn.testBit i)) (hq_vs1 jn (by omega)) ?_
      refine lv_iconst (v := nI 1) hx hb dX1_place_38 (by decide) ?_
      refine lv_icmp_ne (tgt := 52) hx hb dX1_place_39 (by decide) (fun hy => ?_) (fun hy => ?_)
      · have hv2 : jn.testBit i = false := by cases h : jn.testBit i <;> simp_all [hq_i1]
        have e2 : hq_rp vn jn (i + 1) = hq_rp vn jn i := by rw [er, hv2]; simp
        refine hq_inc (a := i) (d := 1) (lv' := [(3, .int (nI (i + 1))), (2, .int (hq_i (hq_rp vn jn i))), (0, .int (nI vn)), (1, .int (nI jn))]) hx hb dX1_place_52 hl (k := 0) rfl (by decide) (by decide) rfl (fun ls hl => ?_)
        refine lv_goto (tgt := 18) hx hb dX1_place_55 (by decide) ?_
        exact ih (i + 1) (by omega) trivial _ _ _ hK hP hD hS (by rw [e2]; exact lv_sub hl [0, 1, 2, 3] rfl)
      · have hv2 : jn.testBit i = true := (hq_i1 _).mp hy
        refine lv_iload_n hx hb dX1_place_42 rfl (lv_at hl 1 rfl) ?_
        refine lv_if_ne (tgt := 50) hx hb dX1_place_43 (by decide) (fun hw => ?_) (fun hw => ?_)
        · have hv3 : hq_rp vn jn i = true := by cases h : hq_rp vn jn i <;> simp_all [hq_iz0]
          refine lv_iconst (v := nI 0) hx hb dX1_place_50 (by decide) ?_
          refine hq_ti (hq_i (hq_rp vn jn (i + 1))) (by rw [er, hv1, hv2, hv3]; rfl) ?_
          refine lv_istore_n (lv' := [(2, .int (hq_i (hq_rp vn jn (i + 1)))), (3, .int (nI i)), (0, .int (nI vn)), (1, .int (nI jn))]) hx hb dX1_place_51 rfl hl (by decide) rfl (fun ls hl => ?_)
          refine hq_inc (a := i) (d := 1) (lv' := [(3, .int (nI (i + 1))), (2, .int (hq_i (hq_rp vn jn (i + 1)))), (0, .int (nI vn)), (1, .int (nI jn))]) hx hb dX1_place_52 hl (k := 1) rfl (by decide) (by decide) rfl (fun ls hl => ?_)
          refine lv_goto (tgt := 18) hx hb dX1_place_55 (by decide) ?_
          exact ih (i + 1) (by omega) trivial _ _ _ hK hP hD hS hl
        · have hv3 : hq_rp vn jn i = false := (hq_iz0 _).mp hw
          refine lv_iconst (v := nI 1) hx hb dX1_place_46 (by decide) ?_
          refine hq_ti (hq_i (hq_rp vn jn (i + 1))) (by rw [er, hv1, hv2, hv3]; rfl) ?_
          refine lv_goto (tgt := 51) hx hb dX1_place_47 (by decide) ?_
          refine lv_istore_n (lv' := [(2, .int (hq_i (hq_rp vn jn (i + 1)))), (3, .int (nI i)), (0, .int (nI vn)), (1, .int (nI jn))]) hx hb dX1_place_51 rfl hl (by decide) rfl (fun ls hl => ?_)
          refine hq_inc (a := i) (d := 1) (lv' := [(3, .int (nI (i + 1))), (2, .int (hq_i (hq_rp vn jn (i + 1)))), (0, .int (nI vn)), (1, .int (nI jn))]) hx hb dX1_place_52 hl (k := 1) rfl (by decide) (by decide) rfl (fun ls hl => ?_)
          refine lv_goto (tgt := 18) hx hb dX1_place_55 (by decide) ?_
          exact ih (i + 1) (by omega) trivial _ _ _ hK hP hD hS hl
set_option maxHeartbeats 4000000 in
set_option maxRecDepth 100000 in
/-- place(v, j): place j of the word of v -/
theorem metX1_place (l : Launch) (D : va_G) (sz : Nat) (vn jn : Nat) :
    hq_Mi (S := Unit) l yX1_place cX1_place 4 .boolean ({ frames := 0, cells := 0, slots := 0, locals := 0 }) D [.int (nI vn), .int (nI jn)] sz [] [] (fun r _ => r = hq_i (hq_rm vn jn)) (fun _ => []) (fun _ => []) := by
  refine hq_startI (by decide) (Nat.le_of_ble_eq_true rfl) ?_
  intro p e s m below meth c A ls hx hb hr hml hown hlocks hname hts hK hP hD hS hA hl
  have hown : s.vm.findClass RX1 = some m.cls := hown
  have hl : lv_has ls 4 [(0, .int (nI vn)), (1, .int (nI jn))] := hl
  have key : hq_At p l e _ s m _ below meth c 0 0 _ D A s.heap 4 [] [] [(3, .int (nI 0)), (2, .int (hq_i (hq_rp vn jn 0))), (0, .int (nI vn)), (1, .int (nI jn))] 18 := hq_plL (R := ({ frames := 0, cells := 0, slots := 0, locals := 0 })) (args := ([.int (nI vn), .int (nI jn)] : List Value).toArray) (cells := 0) (slots := 0) (Q := MQ below (va_Qi (fun r (_ : Unit) => r = hq_i (hq_rm vn jn)) (hq_B D (fun _ => []) (fun _ => []) A) A) ([.int (nI vn), .int (nI jn)] : List Value).toArray s 0 0 A) hx hb (fun hv H locs ls hK hP hD hS hl => by
    refine lv_iload_n hx hb dX1_place_58 rfl (lv_at hl 1 rfl) ?_
    exact hq_zret hx hb hr hlocks dX1_place_59 (hq_zi _) hK hP hD hS () rfl ⟨by decide, by decide⟩ [] rfl (by decide) [] rfl) 7 0 rfl trivial
  refine lv_iload_n hx hb dX1_place_0 rfl (lv_at hl 0 rfl) ?_
  refine lv_bipush (v := nI 7) hx hb dX1_place_1 (by decide) ?_
  refine lv_ishr hx hb dX1_place_3 ?_
  refine lv_iconst (v := nI 1) hx hb dX1_place_4 (by decide) ?_
  refine lv_iand hx hb dX1_place_5 ?_
  refine hq_ti (hq_i (vn.testBit 7)) (hq_vs1 vn (by omega)) ?_
  refine lv_iconst (v := nI 1) hx hb dX1_place_6 (by decide) ?_
  refine lv_icmp_ne (tgt := 14) hx hb dX1_place_7 (by decide) (fun hz => ?_) (fun hz => ?_)
  · have hv1 : vn.testBit 7 = false := by cases h : vn.testBit 7 <;> simp_all [hq_i1]
    refine lv_iconst (v := nI 0) hx hb dX1_place_14 (by decide) ?_
    refine hq_ti (hq_i (hq_rp vn jn 0)) (by show _ = hq_i (vn.testBit 7); rw [hv1]; rfl) ?_
    refine lv_istore_n (lv' := [(2, .int (hq_i (hq_rp vn jn 0))), (0, .int (nI vn)), (1, .int (nI jn))]) hx hb dX1_place_15 rfl hl (by decide) rfl (fun ls hl => ?_)
    refine lv_iconst (v := nI 0) hx hb dX1_place_16 (by decide) ?_
    refine lv_istore_n (lv' := [(3, .int (nI 0)), (2, .int (hq_i (hq_rp vn jn 0))), (0, .int (nI vn)), (1, .int (nI jn))]) hx hb dX1_place_17 rfl hl (by decide) rfl (fun ls hl => ?_)
    exact key _ _ _ hK hP hD hS hl
  · have hv1 : vn.testBit 7 = true := (hq_i1 _).mp hz
    refine lv_iconst (v := nI 1) hx hb dX1_place_10 (by decide) ?_
    refine hq_ti (hq_i (hq_rp vn jn 0)) (by show _ = hq_i (vn.testBit 7); rw [hv1]; rfl) ?_
    refine lv_goto (tgt := 15) hx hb dX1_place_11 (by decide) ?_
    refine lv_istore_n (lv' := [(2, .int (hq_i (hq_rp vn jn 0))), (0, .int (nI vn)), (1, .int (nI jn))]) hx hb dX1_place_15 rfl hl (by decide) rfl (fun ls hl => ?_)
    refine lv_iconst (v := nI 0) hx hb dX1_place_16 (by decide) ?_
    refine lv_istore_n (lv' := [(3, .int (nI 0)), (2, .int (hq_i (hq_rp vn jn 0))), (0, .int (nI vn)), (1, .int (nI jn))]) hx hb dX1_place_17 rfl hl (by decide) rfl (fun ls hl => ?_)
    exact key _ _ _ hK hP hD hS hl
set_option maxHeartbeats 4000000 in
set_option maxRecDepth 100000 in
/-- spot(at) -/
theorem metX1_spot (l : Launch) (D : va_G) (sz : Nat) (x0 : Int32) :
    hq_Mi (S := Unit) l yX1_spot cX1_spot 1 .int ({ frames := 0, cells := 0, slots := 0, locals := 0 }) D [.int x0] sz [] [] (fun r _ => r = nI (hq_sp x0)) (fun _ => []) (fun _ => []) := by
  refine hq_startI (by decide) (Nat.le_of_ble_eq_true rfl) ?_
  intro p e s m below meth c A ls hx hb hr hml hown hlocks hname hts hK hP hD hS hA hl
  have hown : s.vm.findClass RX1 = some m.cls := hown
  have hl : lv_has ls 1 [(0, .int x0)] := hl
  refine lv_iload_n hx hb dX1_spot_0 rfl (lv_at hl 0 rfl) ?_
  refine lv_ldc hx hb hown (hts _ q128) dX1_spot_1 ?_
  refine lv_iand hx hb dX1_spot_3 ?_
  refine lv_sipush (v := nI 1536) hx hb dX1_spot_4 (by decide) ?_
  refine lv_irem hx hb dX1_spot_7 (by decide) ?_
  refine hq_ti (nI (hq_sp x0)) (hq_spot x0) ?_
  exact hq_iret hx hb hr hlocks dX1_spot_8 hK hP hD hS () rfl ⟨by decide, by decide⟩ [] rfl (by decide) [] rfl
set_option maxHeartbeats 4000000 in
set_option maxRecDepth 100000 in
/-- letter(i, v): one letter is set -/
theorem metX1_letter (l : Launch) (D : va_G) (a0 a1 a2 : Nat) (dI dZ : ClassId) (sz : Nat) (gl gw : Nat → Int32) (cn : Nat) (i0 x0 : Int32) :
    hq_Mv (S := Unit) l yX1_letter cX1_letter 3 ({ frames := 0, cells := 0, slots := 0, locals := 0 }) D [.ref a0, .int i0, .int x0] sz [(a0, .inr (1, [.ref a1, .ref a2, .int (nI cn)])), (a1, .inl (dI, 4, .inl gl)), (a2, .inl (dZ, 1536, .inl gw))] [(dI, .int), (dZ, .boolean)] (fun _ => True) (fun _ => [(a0, .inr (1, [.ref a1, .ref a2, .int (nI cn)])), (a1, .inl (dI, 4, .inl (upd gl (i0.toBitVec.toNat % 4) (nI (x0.toBitVec.toNat % 256))))), (a2, .inl (dZ, 1536, .inl gw))]) (fun _ => [(dI, .int), (dZ, .boolean)]) := by
  refine hq_startV (by decide) (Nat.le_of_ble_eq_true rfl) ?_
  intro p e s m below meth c A ls hx hb hr hml hown hlocks hname hts hK hP hD hS hA hl
  have hown : s.vm.findClass RX1 = some m.cls := hown
  have hl : lv_has ls 3 [(0, .ref a0), (1, .int i0), (2, .int x0)] := hl
  refine lv_aload_n hx hb dX1_letter_0 rfl (lv_at hl 0 rfl) ?_
  refine va_get (D := D) (ci := 1) (v := .ref a1) (C := RX1) (T := TX1) (N := 3) hx hb hts in_X1 hown hK hP 0 rfl rfl 0 (by decide) (hts _ q95) (fun _ h9 => h9) rfl dX1_letter_1 ?_
  refine lv_iload_n hx hb dX1_letter_4 rfl (lv_at hl 1 rfl) ?_
  refine lv_iconst (v := nI 3) hx hb dX1_letter_5 (by decide) ?_
  refine lv_iand hx hb dX1_letter_6 ?_
  refine hq_ti (nI (i0.toBitVec.toNat % 4)) (hq_and3 _) ?_
  refine lv_iload_n hx hb dX1_letter_7 rfl (lv_at hl 2 rfl) ?_
  refine lv_sipush (v := nI 255) hx hb dX1_letter_8 (by decide) ?_
  refine lv_iand hx hb dX1_letter_11 ?_
  refine hq_ti (nI (x0.toBitVec.toNat % 256)) (hq_and255 _) ?_
  refine hq_si (ws' := [(a0, .inr (1, [.ref a1, .ref a2, .int (nI cn)])), (a1, .inl (dI, 4, .inl (upd gl (i0.toBitVec.toNat % 4) (nI (x0.toBitVec.toNat % 256))))), (a2, .inl (dZ, 1536, .inl gw))]) hx hb hK hP hD hS 1 0 rfl rfl (Nat.mod_lt _ (by decide)) (by omega) rfl dX1_letter_12 (fun H locs hP hD hS => ?_)
  exact hq_vret hx hb hr hlocks dX1_letter_13 hK hP hD hS () trivial ⟨by decide, by decide⟩ [0, 1, 2] rfl (by decide) [0, 1] rfl
set_option maxHeartbeats 4000000 in
set_option maxRecDepth 100000 in
/-- letter(i): one letter -/
theorem metX1_letter_2 (l : Launch) (D : va_G) (a0 a1 a2 : Nat) (dI dZ : ClassId) (sz : Nat) (gl gw : Nat → Int32) (cn : Nat) (i0 : Int32) :
    hq_Mi (S := Unit) l yX1_letter_2 cX1_letter_2 2 .int ({ frames := 0, cells := 0, slots := 0, locals := 0 }) D [.ref a0, .int i0] sz [(a0, .inr (1, [.ref a1, .ref a2, .int (nI cn)])), (a1, .inl (dI, 4, .inl gl)), (a2, .inl (dZ, 1536, .inl gw))] [(dI, .int), (dZ, .boolean)] (fun r _ => r = gl (i0.toBitVec.toNat % 4)) (fun _ => [(a0, .inr (1, [.ref a1, .ref a2, .int (nI cn)])), (a1, .inl (dI, 4, .inl gl)), (a2, .inl (dZ, 1536, .inl gw))]) (fun _ => [(dI, .int), (dZ, .boolean)]) := by
  refine hq_startI (by decide) (Nat.le_of_ble_eq_true rfl) ?_
  intro p e s m below meth c A ls hx hb hr hml hown hlocks hname hts hK hP hD hS hA hl
  have hown : s.vm.findClass RX1 = some m.cls := hown
  have hl : lv_has ls 2 [(0, .ref a0), (1, .int i0)] := hl
  refine lv_aload_n hx hb dX1_letter_2_0 rfl (lv_at hl 0 rfl) ?_
  refine va_get (D := D) (ci := 1) (v := .ref a1) (C := RX1) (T := TX1) (N := 3) hx hb hts in_X1 hown hK hP 0 rfl rfl 0 (by decide) (hts _ q95) (fun _ h9 => h9) rfl dX1_letter_2_1 ?_
  refine lv_iload_n hx hb dX1_letter_2_4 rfl (lv_at hl 1 rfl) ?_
  refine lv_iconst (v := nI 3) hx hb dX1_letter_2_5 (by decide) ?_
  refine lv_iand hx hb dX1_letter_2_6 ?_
  refine hq_ti (nI (i0.toBitVec.toNat % 4)) (hq_and3 _) ?_
  refine hq_ri hx hb hK hP 1 0 rfl rfl (Nat.mod_lt _ (by decide)) (by omega) dX1_letter_2_7 ?_
  exact hq_iret hx hb hr hlocks dX1_letter_2_8 hK hP hD hS () rfl ⟨by decide, by decide⟩ [0, 1, 2] rfl (by decide) [0, 1] rfl
theorem hq_mw_step {gw : Nat → Int32} {vl : Nat → Nat} {i u j : Nat} (hu : u < 3) (hj : j < 128) (h : ∀ k, k < 384 * i + 128 * u + j → gw k = hq_i (hq_rm (vl (k / 384)) (k % 128))) : ∀ k, k < 384 * i + 128 * u + (j + 1) → upd gw (i * 384 + u * 128 + j) (hq_i (hq_rm (vl i) j)) k = hq_i (hq_rm (vl (k / 384)) (k % 128)) := by
  intro k hk
  unfold upd
  by_cases e : k = i * 384 + u * 128 + j
  · rw [if_pos e, show k / 384 = i by omega, show k % 128 = j by omega]
  · rw [if_neg e]
    exact h k (by omega)
set_option maxHeartbeats 4000000 in
set_option maxRecDepth 100000 in
theorem hq_mw3 {p : Program} {l : Launch} {e : Env} {R : Room} {s : State} {m : MethodId} {args : Array Value} {below : List Frame} {meth : Method} {c : Code} {cells slots : Nat} {Q : State → Prop} {D : va_G} {A : Nat → Prop} {H0 : Heap} {a0 a1 a2 : Nat} {dI dZ : ClassId} {gl : Nat → Int32} {cn : Nat} {vl : Nat → Nat} {i u : Nat} (hx : p.tables.exec = Jvm.exec) (hb : c.code = cX1_write) (hml : c.maxLocals = 4) (hown : s.vm.findClass RX1 = some m.cls) (hts : ∀ w ∈ lw_all, w.before args s = true) (hA : ∀ q : Nat, H0.size ≤ q → A q) (hRf : 1 ≤ R.frames) (hRl : 23 ≤ R.locals) (hRc : cells ≤ R.cells) (hRs : slots ≤ R.slots) (hgl : ∀ j, j < 4 → gl j = nI (vl j)) (hi : i < 4) (hu : u < 3)
    (ex : ∀ (gw : Nat → Int32), (∀ k, k < 384 * i + 128 * u + 128 → gw k = hq_i (hq_rm (vl (k / 384)) (k % 128))) → hq_At p l e R s m args below meth c cells slots Q D A H0 4 [(dI, .int), (dZ, .boolean)] [(a0, .inr (1, [.ref a1, .ref a2, .int (nI cn)])), (a1, .inl (dI, 4, .inl gl)), (a2, .inl (dZ, 1536, .inl gw))] [(3, .int (nI 128)), (2, .int (nI u)), (1, .int (nI i)), (0, .ref a0)] 57) :
    ∀ (n j : Nat), j + n = 128 → ∀ (gw : Nat → Int32), (∀ k, k < 384 * i + 128 * u + j → gw k = hq_i (hq_rm (vl (k / 384)) (k % 128))) → hq_At p l e R s m args below meth c cells slots Q D A H0 4 [(dI, .int), (dZ, .boolean)] [(a0, .inr (1, [.ref a1, .ref a2, .int (nI cn)])), (a1, .inl (dI, 4, .inl gl)), (a2, .inl (dZ, 1536, .inl gw))] [(3, .int (nI j)), (2, .int (nI u)), (1, .int (nI i)), (0, .ref a0)] 16 := by
  intro n
  induction n with
  | zero =>
    intro j hn gw hv H locs ls hK hP hD hS hl
    obtain rfl : j = 128 := by omega
    refine lv_iload_n hx hb dX1_write_16 rfl (lv_at hl 0 rfl) ?_
    refine lv_sipush (v := nI 128) hx hb dX1_write_17 (by decide) ?_
    refine hq_geT (tgt := 57) hx hb dX1_write_20 (by decide) (Nat.le_refl _) (by omega) ?_
    exact ex gw hv _ _ _ hK hP hD hS hl
  | succ n ih =>
    intro j hn gw hv H locs ls hK hP hD hS hl
    refine lv_iload_n hx hb dX1_write_16 rfl (lv_at hl 0 rfl) ?_
    refine lv_sipush (v := nI 128) hx hb dX1_write_17 (by decide) ?_
    refine hq_geF (tgt := 57) hx hb dX1_write_20 (by decide) (by omega) (by omega) ?_
    refine lv_aload_n hx hb dX1_write_23 rfl (lv_at hl 3 rfl) ?_
    refine va_get (D := D) (ci := 1) (v := .ref a2) (C := RX1) (T := TX1) (N := 3) hx hb hts in_X1 hown hK hP 0 rfl rfl 1 (by decide) (hts _ q96) (fun _ h9 => h9) rfl dX1_write_24 ?_
    refine lv_iload_n hx hb dX1_write_27 rfl (lv_at hl 2 rfl) ?_
    refine lv_sipush (v := nI 384) hx hb dX1_write_28 (by decide) ?_
    refine hq_mul hx hb dX1_write_31 ?_
    refine lv_iload_n hx hb dX1_write_32 rfl (lv_at hl 1 rfl) ?_
    refine lv_sipush (v := nI 128) hx hb dX1_write_33 (by decide) ?_
    refine hq_mul hx hb dX1_write_36 ?_
    refine hq_add hx hb dX1_write_37 ?_
    refine lv_iload_n hx hb dX1_write_38 rfl (lv_at hl 0 rfl) ?_
    refine hq_add hx hb dX1_write_39 ?_
    refine lv_aload_n hx hb dX1_write_40 rfl (lv_at hl 3 rfl) ?_
    refine va_get (D := D) (ci := 1) (v := .ref a1) (C := RX1) (T := TX1) (N := 3) hx hb hts in_X1 hown hK hP 0 rfl rfl 0 (by decide) (hts _ q95) (fun _ h9 => h9) rfl dX1_write_41 ?_
    refine lv_iload_n hx hb dX1_write_44 rfl (lv_at hl 2 rfl) ?_
    refine hq_ri hx hb hK hP 1 0 rfl rfl (by omega) (by omega) dX1_write_45 ?_
    refine hq_ti (nI (vl i)) (hgl i hi) ?_
    refine lv_iload_n hx hb dX1_write_46 rfl (lv_at hl 0 rfl) ?_
    refine hq_callSi (As := [.int (nI (vl i)), .int (nI j)]) (rest := [.int (nI (((i * 384) + (u * 128)) + j)), .ref a2]) (wr := [(a0, .inr (1, [.ref a1, .ref a2, .int (nI cn)])), (a1, .inl (dI, 4, .inl gl)), (a2, .inl (dZ, 1536, .inl gw))]) (tr := [(dI, .int), (dZ, .boolean)]) (cells' := cells) (slots' := slots) ⟨hx, hb, hml, hown, hts⟩ (metX1_place l D _ (vl i) j) 2 q118 q119 q3 q120 (by decide +kernel) rfl ⟨hRf, hRl⟩ ⟨hRc, hRs⟩ ⟨Nat.le_refl _, Nat.le_refl _⟩ hl rfl (Nat.le_of_ble_eq_true rfl) dX1_write_47 hK hP hD hS hA [] [0, 1, 2] rfl rfl (by decide) (by decide) (by decide) [] [0, 1] rfl rfl (fun r _ H locs hw hK hP hD hS => ?_)
    subst hw
    have hP : va_P D vwCl [(a0, .inr (1, [.ref a1, .ref a2, .int (nI cn)])), (a1, .inl (dI, 4, .inl gl)), (a2, .inl (dZ, 1536, .inl gw))] H := hP
    have hD : va_D A [(a0, .inr (1, [.ref a1, .ref a2, .int (nI cn)])), (a1, .inl (dI, 4, .inl gl)), (a2, .inl (dZ, 1536, .inl gw))] := hD
    have hK : va_K D vwCl [(dI, .int), (dZ, .boolean)] s := hK
    refine hq_sz (ws' := [(a0, .inr (1, [.ref a1, .ref a2, .int (nI cn)])), (a1, .inl (dI, 4, .inl gl)), (a2, .inl (dZ, 1536, .inl (upd gw (((i * 384) + (u * 128)) + j) (hq_i (hq_rm (vl i) j)))))]) hx hb hK hP hD hS 2 1 rfl rfl (by omega) (by omega) (hq_zn _) rfl dX1_write_50 (fun H locs hP hD hS => ?_)
    refine hq_inc (a := j) (d := 1) (lv' := [(3, .int (nI (j + 1))), (2, .int (nI u)), (1, .int (nI i)), (0, .ref a0)]) hx hb dX1_write_51 hl (k := 0) rfl (by decide) (by decide) rfl (fun ls hl => ?_)
    refine lv_goto (tgt := 16) hx hb dX1_write_54 (by decide) ?_
    exact ih (j + 1) (by omega) _ (hq_mw_step hu (by omega) hv) _ _ _ hK hP hD hS hl
set_option maxHeartbeats 4000000 in
set_option maxRecDepth 100000 in
theorem hq_mw2 {p : Program} {l : Launch} {e : Env} {R : Room} {s : State} {m : MethodId} {args : Array Value} {below : List Frame} {meth : Method} {c : Code} {cells slots : Nat} {Q : State → Prop} {D : va_G} {A : Nat → Prop} {H0 : Heap} {a0 a1 a2 : Nat} {dI dZ : ClassId} {gl : Nat → Int32} {cn : Nat} {vl : Nat → Nat} {i : Nat} (hx : p.tables.exec = Jvm.exec) (hb : c.code = cX1_write) (hml : c.maxLocals = 4) (hown : s.vm.findClass RX1 = some m.cls) (hts : ∀ w ∈ lw_all, w.before args s = true) (hA : ∀ q : Nat, H0.size ≤ q → A q) (hRf : 1 ≤ R.frames) (hRl : 23 ≤ R.locals) (hRc : cells ≤ R.cells) (hRs : slots ≤ R.slots) (hgl : ∀ j, j < 4 → gl j = nI (vl j)) (hi : i < 4)
    (ex : ∀ (gw : Nat → Int32), (∀ k, k < 384 * i + 128 * 3 + 0 → gw k = hq_i (hq_rm (vl (k / 384)) (k % 128))) → hq_At p l e R s m args below meth c cells slots Q D A H0 4 [(dI, .int), (dZ, .boolean)] [(a0, .inr (1, [.ref a1, .ref a2, .int (nI cn)])), (a1, .inl (dI, 4, .inl gl)), (a2, .inl (dZ, 1536, .inl gw))] [(2, .int (nI 3)), (1, .int (nI i)), (0, .ref a0)] 63) :
    ∀ (n u : Nat), u + n = 3 → ∀ (gw : Nat → Int32), (∀ k, k < 384 * i + 128 * u + 0 → gw k = hq_i (hq_rm (vl (k / 384)) (k % 128))) → hq_At p l e R s m args below meth c cells slots Q D A H0 4 [(dI, .int), (dZ, .boolean)] [(a0, .inr (1, [.ref a1, .ref a2, .int (nI cn)])), (a1, .inl (dI, 4, .inl gl)), (a2, .inl (dZ, 1536, .inl gw))] [(2, .int (nI u)), (1, .int (nI i)), (0, .ref a0)] 9 := by
  intro n
  induction n with
  | zero =>
    intro u hn gw hv H locs ls hK hP hD hS hl
    obtain rfl : u = 3 := by omega
    refine lv_iload_n hx hb dX1_write_9 rfl (lv_at hl 0 rfl) ?_
    refine lv_iconst (v := nI 3) hx hb dX1_write_10 (by decide) ?_
    refine hq_geT (tgt := 63) hx hb dX1_write_11 (by decide) (Nat.le_refl _) (by omega) ?_
    exact ex gw hv _ _ _ hK hP hD hS hl
  | succ n ih =>
    intro u hn gw hv H locs ls hK hP hD hS hl
    refine lv_iload_n hx hb dX1_write_9 rfl (lv_at hl 0 rfl) ?_
    refine lv_iconst (v := nI 3) hx hb dX1_write_10 (by decide) ?_
    refine hq_geF (tgt := 63) hx hb dX1_write_11 (by decide) (by omega) (by omega) ?_
    refine lv_iconst (v := nI 0) hx hb dX1_write_14 (by decide) ?_
    refine lv_istore_n (lv' := [(3, .int (nI 0)), (2, .int (nI u)), (1, .int (nI i)), (0, .ref a0)]) hx hb dX1_write_15 rfl hl (by decide) rfl (fun ls hl => ?_)
    refine hq_mw3 hx hb hml hown hts hA hRf hRl hRc hRs hgl hi (show u < 3 by omega) (fun gw hv H locs ls hK hP hD hS hl => ?_) 128 0 rfl gw hv _ _ _ hK hP hD hS hl
    refine hq_inc (a := u) (d := 1) (lv' := [(2, .int (nI (u + 1))), (3, .int (nI 128)), (1, .int (nI i)), (0, .ref a0)]) hx hb dX1_write_57 hl (k := 1) rfl (by decide) (by decide) rfl (fun ls hl => ?_)
    refine lv_goto (tgt := 9) hx hb dX1_write_60 (by decide) ?_
    exact ih (u + 1) (by omega) gw (fun k hk => hv k (by omega)) _ _ _ hK hP hD hS (lv_sub hl [0, 2, 3] rfl)
set_option maxHeartbeats 4000000 in
set_option maxRecDepth 100000 in
theorem hq_mw1 {p : Program} {l : Launch} {e : Env} {R : Room} {s : State} {m : MethodId} {args : Array Value} {below : List Frame} {meth : Method} {c : Code} {cells slots : Nat} {Q : State → Prop} {D : va_G} {A : Nat → Prop} {H0 : Heap} {a0 a1 a2 : Nat} {dI dZ : ClassId} {gl : Nat → Int32} {cn : Nat} {vl : Nat → Nat} (hx : p.tables.exec = Jvm.exec) (hb : c.code = cX1_write) (hml : c.maxLocals = 4) (hown : s.vm.findClass RX1 = some m.cls) (hts : ∀ w ∈ lw_all, w.before args s = true) (hA : ∀ q : Nat, H0.size ≤ q → A q) (hRf : 1 ≤ R.frames) (hRl : 23 ≤ R.locals) (hRc : cells ≤ R.cells) (hRs : slots ≤ R.slots) (hgl : ∀ j, j < 4 → gl j = nI (vl j))
    (ex : ∀ (gw : Nat → Int32), (∀ k, k < 384 * 4 + 128 * 0 + 0 → gw k = hq_i (hq_rm (vl (k / 384)) (k % 128))) → hq_At p l e R s m args below meth c cells slots Q D A H0 4 [(dI, .int), (dZ, .boolean)] [(a0, .inr (1, [.ref a1, .ref a2, .int (nI cn)])), (a1, .inl (dI, 4, .inl gl)), (a2, .inl (dZ, 1536, .inl gw))] [(1, .int (nI 4)), (0, .ref a0)] 69) :
    ∀ (n i : Nat), i + n = 4 → ∀ (gw : Nat → Int32), (∀ k, k < 384 * i + 128 * 0 + 0 → gw k = hq_i (hq_rm (vl (k / 384)) (k % 128))) → hq_At p l e R s m args below meth c cells slots Q D A H0 4 [(dI, .int), (dZ, .boolean)] [(a0, .inr (1, [.ref a1, .ref a2, .int (nI cn)])), (a1, .inl (dI, 4, .inl gl)), (a2, .inl (dZ, 1536, .inl gw))] [(1, .int (nI i)), (0, .ref a0)] 2 := by
  intro n
  induction n with
  | zero =>
    intro i hn gw hv H locs ls hK hP hD hS hl
    obtain rfl : i = 4 := by omega
    refine lv_iload_n hx hb dX1_write_2 rfl (lv_at hl 0 rfl) ?_
    refine lv_iconst (v := nI 4) hx hb dX1_write_3 (by decide) ?_
    refine hq_geT (tgt := 69) hx hb dX1_write_4 (by decide) (Nat.le_refl _) (by omega) ?_
    exact ex gw hv _ _ _ hK hP hD hS hl
  | succ n ih =>
    intro i hn gw hv H locs ls hK hP hD hS hl
    refine lv_iload_n hx hb dX1_write_2 rfl (lv_at hl 0 rfl) ?_
    refine lv_iconst (v := nI 4) hx hb dX1_write_3 (by decide) ?_
    refine hq_geF (tgt := 69) hx hb dX1_write_4 (by decide) (by omega) (by omega) ?_
    refine lv_iconst (v := nI 0) hx hb dX1_write_7 (by decide) ?_
    refine lv_istore_n (lv' := [(2, .int (nI 0)), (1, .int (nI i)), (0, .ref a0)]) hx hb dX1_write_8 rfl hl (by decide) rfl (fun ls hl => ?_)
    refine hq_mw2 hx hb hml hown hts hA hRf hRl hRc hRs hgl (show i < 4 by omega) (fun gw hv H locs ls hK hP hD hS hl => ?_) 3 0 rfl gw hv _ _ _ hK hP hD hS hl
    refine hq_inc (a := i) (d := 1) (lv' := [(1, .int (nI (i + 1))), (2, .int (nI 3)), (0, .ref a0)]) hx hb dX1_write_63 hl (k := 1) rfl (by decide) (by decide) rfl (fun ls hl => ?_)
    refine lv_goto (tgt := 2) hx hb dX1_write_66 (by decide) ?_
    exact ih (i + 1) (by omega) gw (fun k hk => hv k (by omega)) _ _ _ hK hP hD hS (lv_sub hl [0, 2] rfl)
set_option maxHeartbeats 4000000 in
set_option maxRecDepth 100000 in
/-- write(): the word is that of the letters -/
theorem metX1_write (l : Launch) (D : va_G) (a0 a1 a2 : Nat) (dI dZ : ClassId) (sz : Nat) (gl gw : Nat → Int32) (cn : Nat) (vl : Nat → Nat) (hgl : ∀ j, j < 4 → gl j = nI (vl j)) :
    hq_Mv (S := Nat → Int32) l yX1_write cX1_write 4 ({ frames := 1, cells := 0, slots := 0, locals := 23 }) D [.ref a0] sz [(a0, .inr (1, [.ref a1, .ref a2, .int (nI cn)])), (a1, .inl (dI, 4, .inl gl)), (a2, .inl (dZ, 1536, .inl gw))] [(dI, .int), (dZ, .boolean)] (fun g => ∀ k, k < 1536 → g k = hq_i (hq_rm (vl (k / 384)) (k % 128))) (fun g => [(a0, .inr (1, [.ref a1, .ref a2, .int (nI 0)])), (a1, .inl (dI, 4, .inl gl)), (a2, .inl (dZ, 1536, .inl g))]) (fun _ => [(dI, .int), (dZ, .boolean)]) := by
  refine hq_startV (by decide) (Nat.le_of_ble_eq_true rfl) ?_
  intro p e s m below meth c A ls hx hb hr hml hown hlocks hname hts hK hP hD hS hA hl
  have hown : s.vm.findClass RX1 = some m.cls := hown
  have hl : lv_has ls 4 [(0, .ref a0)] := hl
  refine lv_iconst (v := nI 0) hx hb dX1_write_0 (by decide) ?_
  refine lv_istore_n (lv' := [(1, .int (nI 0)), (0, .ref a0)]) hx hb dX1_write_1 rfl hl (by decide) rfl (fun ls hl => ?_)
  refine hq_mw1 hx hb hml hown hts hA (by decide) (by decide) (by decide) (by decide) hgl (fun gw hv H locs ls hK hP hD hS hl => ?_) 4 0 rfl gw (fun k hk => absurd hk (by omega)) _ _ _ hK hP hD hS hl
  refine lv_aload_n hx hb dX1_write_69 rfl (lv_at hl 1 rfl) ?_
  refine lv_iconst (v := nI 0) hx hb dX1_write_70 (by decide) ?_
  refine va_put (D := D) (ci := 1) (v := .int (nI 0)) (ty := .int) (C := RX1) (T := TX1) (N := 3) hx hb hts in_X1 tyX1 tyX1_ok nmX1 hown hK hP hD hS 0 rfl rfl 2 (by decide) (hts _ q97) (fun _ h9 => h9) rfl (by decide +kernel) rfl rfl (Nat.le_of_ble_eq_true rfl) dX1_write_71 (fun H locs hP hD hS => ?_)
  have hP : va_P D vwCl [(a0, .inr (1, [.ref a1, .ref a2, .int (nI 0)])), (a1, .inl (dI, 4, .inl gl)), (a2, .inl (dZ, 1536, .inl gw))] H := hP
  have hD : va_D A [(a0, .inr (1, [.ref a1, .ref a2, .int (nI 0)])), (a1, .inl (dI, 4, .inl gl)), (a2, .inl (dZ, 1536, .inl gw))] := hD
  exact hq_vret hx hb hr hlocks dX1_write_74 hK hP hD hS gw (fun k hk => hv k (by omega)) ⟨by decide, by decide⟩ [0, 1, 2] rfl (by decide) [0, 1] rfl
theorem hq_mh_step {gw : Nat → Int32} {wd : Nat → Bool} {q : Nat} (h : ∀ k, k < 1536 → gw k = hq_i (wd k)) : ∀ k, k < 1536 → upd gw q (hq_i (!wd q)) k = hq_i (wd k ^^ decide (k = q)) := by
  intro k hk
  unfold upd
  by_cases e : k = q
  · rw [if_pos e, e, decide_eq_true rfl, Bool.xor_true]
  · rw [if_neg e, decide_eq_false e, Bool.xor_false]
    exact h k hk
set_option maxHeartbeats 4000000 in
set_option maxRecDepth 100000 in
/-- harm(at): under forty, one place is turned -/
theorem metX1_harm (l : Launch) (D : va_G) (a0 a1 a2 : Nat) (dI dZ : ClassId) (sz : Nat) (gl gw : Nat → Int32) (cn : Nat) (x0 : Int32) (wd : Nat → Bool) (hcn : cn ≤ 40) (hgw : ∀ k, k < 1536 → gw k = hq_i (wd k)) :
    hq_Mi (S := (Nat → Int32) × Nat) l yX1_harm cX1_harm 3 .boolean ({ frames := 1, cells := 0, slots := 0, locals := 20 }) D [.ref a0, .int x0] sz [(a0, .inr (1, [.ref a1, .ref a2, .int (nI cn)])), (a1, .inl (dI, 4, .inl gl)), (a2, .inl (dZ, 1536, .inl gw))] [(dI, .int), (dZ, .boolean)] (fun r u => if cn < 40 then r = nI 1 ∧ u.2 = cn + 1 ∧ (∀ k, k < 1536 → u.1 k = hq_i (wd k ^^ decide (k = hq_sp x0))) else r = nI 0 ∧ u.2 = cn ∧ u.1 = gw) (fun u => [(a0, .inr (1, [.ref a1, .ref a2, .int (nI u.2)])), (a1, .inl (dI, 4, .inl gl)), (a2, .inl (dZ, 1536, .inl u.1))]) (fun _ => [(dI, .int), (dZ, .boolean)]) := by
  refine hq_startI (by decide) (Nat.le_of_ble_eq_true rfl) ?_
  intro p e s m below meth c A ls hx hb hr hml hown hlocks hname hts hK hP hD hS hA hl
  have hown : s.vm.findClass RX1 = some m.cls := hown
  have hl : lv_has ls 3 [(0, .ref a0), (1, .int x0)] := hl
  have hsp := hq_sp_lt x0
  by_cases hlt : cn < 40
  · refine lv_aload_n hx hb dX1_harm_0 rfl (lv_at hl 0 rfl) ?_
    refine va_get (D := D) (ci := 1) (v := .int (nI cn)) (C := RX1) (T := TX1) (N := 3) hx hb hts in_X1 hown hK hP 0 rfl rfl 2 (by decide) (hts _ q97) (fun _ h9 => h9) rfl dX1_harm_1 ?_
    refine lv_bipush (v := nI 40) hx hb dX1_harm_4 (by decide) ?_
    refine lv_icmp_lt (tgt := 11) hx hb dX1_harm_6 (by decide) (fun _ => ?_) (fun hz => absurd (nI_lt hlt (by omega)) hz)
    refine lv_iload_n hx hb dX1_harm_11 rfl (lv_at hl 1 rfl) ?_
    refine hq_callSi (As := [.int x0]) (rest := []) (wr := [(a0, .inr (1, [.ref a1, .ref a2, .int (nI cn)])), (a1, .inl (dI, 4, .inl gl)), (a2, .inl (dZ, 1536, .inl gw))]) (tr := [(dI, .int), (dZ, .boolean)]) (cells' := 0) (slots' := 0) ⟨hx, hb, hml, hown, hts⟩ (metX1_spot l D _ x0) 1 q125 q126 q3 q127 (by decide +kernel) rfl ⟨by decide, by decide⟩ ⟨by decide, by decide⟩ ⟨Nat.le_refl _, Nat.le_refl _⟩ hl rfl (Nat.le_of_ble_eq_true rfl) dX1_harm_12 hK hP hD hS hA [] [0, 1, 2] rfl rfl (by decide) (by decide) (by decide) [] [0, 1] rfl rfl (fun rs _ H locs hw hK hP hD hS => ?_)
    subst hw
    have hP : va_P D vwCl [(a0, .inr (1, [.ref a1, .ref a2, .int (nI cn)])), (a1, .inl (dI, 4, .inl gl)), (a2, .inl (dZ, 1536, .inl gw))] H := hP
    have hD : va_D A [(a0, .inr (1, [.ref a1, .ref a2, .int (nI cn)])), (a1, .inl (dI, 4, .inl gl)), (a2, .inl (dZ, 1536, .inl gw))] := hD
    have hK : va_K D vwCl [(dI, .int), (dZ, .boolean)] s := hK
    refine lv_istore_n (lv' := [(2, .int (nI (hq_sp x0))), (0, .ref a0), (1, .int x0)]) hx hb dX1_harm_15 rfl hl (by decide) rfl (fun ls hl => ?_)
    refine lv_aload_n hx hb dX1_harm_16 rfl (lv_at hl 1 rfl) ?_
    refine va_get (D := D) (ci := 1) (v := .ref a2) (C := RX1) (T := TX1) (N := 3) hx hb hts in_X1 hown hK hP 0 rfl rfl 1 (by decide) (hts _ q96) (fun _ h9 => h9) rfl dX1_harm_17 ?_
    refine lv_iload_n hx hb dX1_harm_20 rfl (lv_at hl 0 rfl) ?_
    refine lv_aload_n hx hb dX1_harm_21 rfl (lv_at hl 1 rfl) ?_
    refine va_get (D := D) (ci := 1) (v := .ref a2) (C := RX1) (T := TX1) (N := 3) hx hb hts in_X1 hown hK hP 0 rfl rfl 1 (by decide) (hts _ q96) (fun _ h9 => h9) rfl dX1_harm_22 ?_
    refine lv_iload_n hx hb dX1_harm_25 rfl (lv_at hl 0 rfl) ?_
    refine hq_rz hx hb hK hP 2 1 rfl rfl hsp (by omega) dX1_harm_26 ?_
    refine hq_ti (hq_i (wd (hq_sp x0))) (hgw _ hsp) ?_
    refine lv_if_ne (tgt := 34) hx hb dX1_harm_27 (by decide) (fun hz => ?_) (fun hz => ?_)
    · have hv1 : wd (hq_sp x0) = true := by cases h : wd (hq_sp x0) <;> simp_all [hq_iz0]
      refine lv_iconst (v := nI 0) hx hb dX1_harm_34 (by decide) ?_
      refine hq_ti (hq_i (!wd (hq_sp x0))) (by rw [hv1]; rfl) ?_
      refine hq_sz (ws' := [(a0, .inr (1, [.ref a1, .ref a2, .int (nI cn)])), (a1, .inl (dI, 4, .inl gl)), (a2, .inl (dZ, 1536, .inl (upd gw (hq_sp x0) (hq_i (!wd (hq_sp x0))))))]) hx hb hK hP hD hS 2 1 rfl rfl hsp (by omega) (hq_zn _) rfl dX1_harm_35 (fun H locs hP hD hS => ?_)
      refine lv_aload_n hx hb dX1_harm_36 rfl (lv_at hl 1 rfl) ?_
      refine lv_dup hx hb dX1_harm_37 rfl ?_
      refine va_get (D := D) (ci := 1) (v := .int (nI cn)) (C := RX1) (T := TX1) (N := 3) hx hb hts in_X1 hown hK hP 0 rfl rfl 2 (by decide) (hts _ q97) (fun _ h9 => h9) rfl dX1_harm_38 ?_
      refine lv_iconst (v := nI 1) hx hb dX1_harm_41 (by decide) ?_
      refine hq_add hx hb dX1_harm_42 ?_
      refine va_put (D := D) (ci := 1) (v := .int (nI (cn + 1))) (ty := .int) (C := RX1) (T := TX1) (N := 3) hx hb hts in_X1 tyX1 tyX1_ok nmX1 hown hK hP hD hS 0 rfl rfl 2 (by decide) (hts _ q97) (fun _ h9 => h9) rfl (by decide +kernel) rfl rfl (Nat.le_of_ble_eq_true rfl) dX1_harm_43 (fun H locs hP hD hS => ?_)
      have hP : va_P D vwCl [(a0, .inr (1, [.ref a1, .ref a2, .int (nI (cn + 1))])), (a1, .inl (dI, 4, .inl gl)), (a2, .inl (dZ, 1536, .inl (upd gw (hq_sp x0) (hq_i (!wd (hq_sp x0))))))] H := hP
      have hD : va_D A [(a0, .inr (1, [.ref a1, .ref a2, .int (nI (cn + 1))])), (a1, .inl (dI, 4, .inl gl)), (a2, .inl (dZ, 1536, .inl (upd gw (hq_sp x0) (hq_i (!wd (hq_sp x0))))))] := hD
      refine lv_iconst (v := nI 1) hx hb dX1_harm_46 (by decide) ?_
      exact hq_zret hx hb hr hlocks dX1_harm_47 (by decide) hK hP hD hS ((upd gw (hq_sp x0) (hq_i (!wd (hq_sp x0)))), cn + 1) (by rw [if_pos hlt]; exact ⟨rfl, rfl, hq_mh_step hgw⟩) ⟨by decide, by decide⟩ [0, 1, 2] rfl (by decide) [0, 1] rfl
    · have hv1 : wd (hq_sp x0) = false := (hq_iz0 _).mp hz
      refine lv_iconst (v := nI 1) hx hb dX1_harm_30 (by decide) ?_
      refine hq_ti (hq_i (!wd (hq_sp x0))) (by rw [hv1]; rfl) ?_
      refine lv_goto (tgt := 35) hx hb dX1_harm_31 (by decide) ?_
      refine hq_sz (ws' := [(a0, .inr (1, [.ref a1, .ref a2, .int (nI cn)])), (a1, .inl (dI, 4, .inl gl)), (a2, .inl (dZ, 1536, .inl (upd gw (hq_sp x0) (hq_i (!wd (hq_sp x0))))))]) hx hb hK hP hD hS 2 1 rfl rfl hsp (by omega) (hq_zn _) rfl dX1_harm_35 (fun H locs hP hD hS => ?_)
      refine lv_aload_n hx hb dX1_harm_36 rfl (lv_at hl 1 rfl) ?_
      refine lv_dup hx hb dX1_harm_37 rfl ?_
      refine va_get (D := D) (ci := 1) (v := .int (nI cn)) (C := RX1) (T := TX1) (N := 3) hx hb hts in_X1 hown hK hP 0 rfl rfl 2 (by decide) (hts _ q97) (fun _ h9 => h9) rfl dX1_harm_38 ?_
      refine lv_iconst (v := nI 1) hx hb dX1_harm_41 (by decide) ?_
      refine hq_add hx hb dX1_harm_42 ?_
      refine va_put (D := D) (ci := 1) (v := .int (nI (cn + 1))) (ty := .int) (C := RX1) (T := TX1) (N := 3) hx hb hts in_X1 tyX1 tyX1_ok nmX1 hown hK hP hD hS 0 rfl rfl 2 (by decide) (hts _ q97) (fun _ h9 => h9) rfl (by decide +kernel) rfl rfl (Nat.le_of_ble_eq_true rfl) dX1_harm_43 (fun H locs hP hD hS => ?_)
      have hP : va_P D vwCl [(a0, .inr (1, [.ref a1, .ref a2, .int (nI (cn + 1))])), (a1, .inl (dI, 4, .inl gl)), (a2, .inl (dZ, 1536, .inl (upd gw (hq_sp x0) (hq_i (!wd (hq_sp x0))))))] H := hP
      have hD : va_D A [(a0, .inr (1, [.ref a1, .ref a2, .int (nI (cn + 1))])), (a1, .inl (dI, 4, .inl gl)), (a2, .inl (dZ, 1536, .inl (upd gw (hq_sp x0) (hq_i (!wd (hq_sp x0))))))] := hD
      refine lv_iconst (v := nI 1) hx hb dX1_harm_46 (by decide) ?_
      exact hq_zret hx hb hr hlocks dX1_harm_47 (by decide) hK hP hD hS ((upd gw (hq_sp x0) (hq_i (!wd (hq_sp x0)))), cn + 1) (by rw [if_pos hlt]; exact ⟨rfl, rfl, hq_mh_step hgw⟩) ⟨by decide, by decide⟩ [0, 1, 2] rfl (by decide) [0, 1] rfl
  · refine lv_aload_n hx hb dX1_harm_0 rfl (lv_at hl 0 rfl) ?_
    refine va_get (D := D) (ci := 1) (v := .int (nI cn)) (C := RX1) (T := TX1) (N := 3) hx hb hts in_X1 hown hK hP 0 rfl rfl 2 (by decide) (hts _ q97) (fun _ h9 => h9) rfl dX1_harm_1 ?_
    refine lv_bipush (v := nI 40) hx hb dX1_harm_4 (by decide) ?_
    refine lv_icmp_lt (tgt := 11) hx hb dX1_harm_6 (by decide) (fun hz => absurd hz (nI_nlt (Nat.le_of_not_lt hlt) (by omega))) (fun _ => ?_)
    refine lv_iconst (v := nI 0) hx hb dX1_harm_9 (by decide) ?_
    exact hq_zret hx hb hr hlocks dX1_harm_10 (by decide) hK hP hD hS (gw, cn) (by rw [if_neg hlt]; exact ⟨rfl, rfl, rfl⟩) ⟨by decide, by decide⟩ [0, 1, 2] rfl (by decide) [0, 1] rfl
set_option maxHeartbeats 4000000 in
set_option maxRecDepth 100000 in
/-- bit(at): one place of the word -/
theorem metX1_bit (l : Launch) (D : va_G) (a0 a1 a2 : Nat) (dI dZ : ClassId) (sz : Nat) (gl gw : Nat → Int32) (cn : Nat) (x0 : Int32) (wd : Nat → Bool) (hgw : ∀ k, k < 1536 → gw k = hq_i (wd k)) :
    hq_Mi (S := Unit) l yX1_bit cX1_bit 2 .int ({ frames := 1, cells := 0, slots := 0, locals := 20 }) D [.ref a0, .int x0] sz [(a0, .inr (1, [.ref a1, .ref a2, .int (nI cn)])), (a1, .inl (dI, 4, .inl gl)), (a2, .inl (dZ, 1536, .inl gw))] [(dI, .int), (dZ, .boolean)] (fun r _ => r = hq_i (wd (hq_sp x0))) (fun _ => [(a0, .inr (1, [.ref a1, .ref a2, .int (nI cn)])), (a1, .inl (dI, 4, .inl gl)), (a2, .inl (dZ, 1536, .inl gw))]) (fun _ => [(dI, .int), (dZ, .boolean)]) := by
  refine hq_startI (by decide) (Nat.le_of_ble_eq_true rfl) ?_
  intro p e s m below meth c A ls hx hb hr hml hown hlocks hname hts hK hP hD hS hA hl
  have hown : s.vm.findClass RX1 = some m.cls := hown
  have hl : lv_has ls 2 [(0, .ref a0), (1, .int x0)] := hl
  have hsp := hq_sp_lt x0
  refine lv_aload_n hx hb dX1_bit_0 rfl (lv_at hl 0 rfl) ?_
  refine va_get (D := D) (ci := 1) (v := .ref a2) (C := RX1) (T := TX1) (N := 3) hx hb hts in_X1 hown hK hP 0 rfl rfl 1 (by decide) (hts _ q96) (fun _ h9 => h9) rfl dX1_bit_1 ?_
  refine lv_iload_n hx hb dX1_bit_4 rfl (lv_at hl 1 rfl) ?_
  refine hq_callSi (As := [.int x0]) (rest := [.ref a2]) (wr := [(a0, .inr (1, [.ref a1, .ref a2, .int (nI cn)])), (a1, .inl (dI, 4, .inl gl)), (a2, .inl (dZ, 1536, .inl gw))]) (tr := [(dI, .int), (dZ, .boolean)]) (cells' := 0) (slots' := 0) ⟨hx, hb, hml, hown, hts⟩ (metX1_spot l D _ x0) 1 q125 q126 q3 q127 (by decide +kernel) rfl ⟨by decide, by decide⟩ ⟨by decide, by decide⟩ ⟨Nat.le_refl _, Nat.le_refl _⟩ hl rfl (Nat.le_of_ble_eq_true rfl) dX1_bit_5 hK hP hD hS hA [] [0, 1, 2] rfl rfl (by decide) (by decide) (by decide) [] [0, 1] rfl rfl (fun rs _ H locs hw hK hP hD hS => ?_)
  subst hw
  have hP : va_P D vwCl [(a0, .inr (1, [.ref a1, .ref a2, .int (nI cn)])), (a1, .inl (dI, 4, .inl gl)), (a2, .inl (dZ, 1536, .inl gw))] H := hP
  have hD : va_D A [(a0, .inr (1, [.ref a1, .ref a2, .int (nI cn)])), (a1, .inl (dI, 4, .inl gl)), (a2, .inl (dZ, 1536, .inl gw))] := hD
  have hK : va_K D vwCl [(dI, .int), (dZ, .boolean)] s := hK
  refine hq_rz hx hb hK hP 2 1 rfl rfl hsp (by omega) dX1_bit_8 ?_
  refine hq_ti (hq_i (wd (hq_sp x0))) (hgw _ hsp) ?_
  refine lv_if_eq (tgt := 16) hx hb dX1_bit_9 (by decide) (fun hz => ?_) (fun hz => ?_)
  · have hv1 : wd (hq_sp x0) = false := (hq_iz0 _).mp hz
    refine lv_iconst (v := nI 0) hx hb dX1_bit_16 (by decide) ?_
    refine hq_ti (hq_i (wd (hq_sp x0))) (by rw [hv1]; rfl) ?_
    exact hq_iret hx hb hr hlocks dX1_bit_17 hK hP hD hS () rfl ⟨by decide, by decide⟩ [0, 1, 2] rfl (by decide) [0, 1] rfl
  · have hv1 : wd (hq_sp x0) = true := by cases h : wd (hq_sp x0) <;> simp_all [hq_iz0]
    refine lv_iconst (v := nI 1) hx hb dX1_bit_12 (by decide) ?_
    refine hq_ti (hq_i (wd (hq_sp x0))) (by rw [hv1]; rfl) ?_
    refine lv_goto (tgt := 17) hx hb dX1_bit_13 (by decide) ?_
    exact hq_iret hx hb hr hlocks dX1_bit_17 hK hP hD hS () rfl ⟨by decide, by decide⟩ [0, 1, 2] rfl (by decide) [0, 1] rfl
theorem hq_D_le (wd : Nat → Bool) (i v : Nat) : hq_D wd i v ≤ 384 := by
  have h : hq_sn (hq_d wd i v) 128 ≤ hq_sn (fun _ => 3) 128 := hq_sn_le (fun j _ => (by decide : ∀ a b c : Bool, 0 + hq_n a + hq_n b + hq_n c ≤ 3) _ _ _)
  rw [hq_sn_const] at h
  exact h
theorem hq_ieq : ∀ a b : Bool, hq_i a = hq_i b ↔ (a ^^ b) = false := by decide
theorem hq_n0 {b : Bool} (h : b = false) : hq_n b = 0 := by rw [h]; rfl
theorem hq_n1 {b : Bool} (h : ¬ b = false) : hq_n b = 1 := by cases b <;> simp_all [hq_n]
set_option maxHeartbeats 4000000 in
set_option maxRecDepth 100000 in
theorem hq_ne3 {p : Program} {l : Launch} {e : Env} {R : Room} {s : State} {m : MethodId} {args : Array Value} {below : List Frame} {meth : Method} {c : Code} {cells slots : Nat} {Q : State → Prop} {D : va_G} {A : Nat → Prop} {H0 : Heap} {a0 a1 a2 : Nat} {dI dZ : ClassId} {gl gw : Nat → Int32} {cn : Nat} {wd : Nat → Bool} {i v j ff bs D0 : Nat} (hx : p.tables.exec = Jvm.exec) (hb : c.code = cX1_nearest) (hml : c.maxLocals = 9) (hown : s.vm.findClass RX1 = some m.cls) (hts : ∀ w ∈ lw_all, w.before args s = true) (hA : ∀ q : Nat, H0.size ≤ q → A q) (hgw : ∀ k, k < 1536 → gw k = hq_i (wd k)) (hi : i < 4) (hj : j < 128)
    (ex : ∀ (d : Nat), d = D0 + hq_sn (fun z => hq_n (wd (i * 384 + z * 128 + j) ^^ hq_rm v j)) 3 → hq_At p l e R s m args below meth c cells slots Q D A H0 9 [(dI, .int), (dZ, .boolean)] [(a0, .inr (1, [.ref a1, .ref a2, .int (nI cn)])), (a1, .inl (dI, 4, .inl gl)), (a2, .inl (dZ, 1536, .inl gw))] [(8, .int (nI 3)), (7, .int (hq_i (hq_rm v j))), (6, .int (nI j)), (5, .int (nI d)), (4, .int (nI v)), (3, .int (nI ff)), (2, .int (nI bs)), (1, .int (nI i)), (0, .ref a0)] 83) :
    ∀ (n u : Nat), u + n = 3 → ∀ (d : Nat), d = D0 + hq_sn (fun z => hq_n (wd (i * 384 + z * 128 + j) ^^ hq_rm v j)) u → hq_At p l e R s m args below meth c cells slots Q D A H0 9 [(dI, .int), (dZ, .boolean)] [(a0, .inr (1, [.ref a1, .ref a2, .int (nI cn)])), (a1, .inl (dI, 4, .inl gl)), (a2, .inl (dZ, 1536, .inl gw))] [(8, .int (nI u)), (7, .int (hq_i (hq_rm v j))), (6, .int (nI j)), (5, .int (nI d)), (4, .int (nI v)), (3, .int (nI ff)), (2, .int (nI bs)), (1, .int (nI i)), (0, .ref a0)] 43 := by
  intro n
  induction n with
  | zero =>
    intro u hn d hv H locs ls hK hP hD hS hl
    obtain rfl : u = 3 := by omega
    refine lv_iload hx hb dX1_nearest_43 (lv_at hl 0 rfl) ?_
    refine lv_iconst (v := nI 3) hx hb dX1_nearest_45 (by decide) ?_
    refine hq_geT (tgt := 83) hx hb dX1_nearest_46 (by decide) (Nat.le_refl _) (by omega) ?_
    exact ex d hv _ _ _ hK hP hD hS hl
  | succ n ih =>
    intro u hn d hv H locs ls hK hP hD hS hl
    refine lv_iload hx hb dX1_nearest_43 (lv_at hl 0 rfl) ?_
    refine lv_iconst (v := nI 3) hx hb dX1_nearest_45 (by decide) ?_
    refine hq_geF (tgt := 83) hx hb dX1_nearest_46 (by decide) (by omega) (by omega) ?_
    refine lv_aload_n hx hb dX1_nearest_49 rfl (lv_at hl 8 rfl) ?_
    refine va_get (D := D) (ci := 1) (v := .ref a2) (C := RX1) (T := TX1) (N := 3) hx hb hts in_X1 hown hK hP 0 rfl rfl 1 (by decide) (hts _ q96) (fun _ h9 => h9) rfl dX1_nearest_50 ?_
    refine lv_iload_n hx hb dX1_nearest_53 rfl (lv_at hl 7 rfl) ?_
    refine lv_sipush (v := nI 384) hx hb dX1_nearest_54 (by decide) ?_
    refine hq_mul hx hb dX1_nearest_57 ?_
    refine lv_iload hx hb dX1_nearest_58 (lv_at hl 0 rfl) ?_
    refine lv_sipush (v := nI 128) hx hb dX1_nearest_60 (by decide) ?_
    refine hq_mul hx hb dX1_nearest_63 ?_
    refine hq_add hx hb dX1_nearest_64 ?_
    refine lv_iload hx hb dX1_nearest_65 (lv_at hl 2 rfl) ?_
    refine hq_add hx hb dX1_nearest_67 ?_
    refine hq_rz hx hb hK hP 2 1 rfl rfl (by omega) (by omega) dX1_nearest_68 ?_
    refine hq_ti (hq_i (wd (i * 384 + u * 128 + j))) (hgw _ (by omega)) ?_
    refine lv_iload hx hb dX1_nearest_69 (lv_at hl 1 rfl) ?_
    refine lv_icmp_eq (tgt := 77) hx hb dX1_nearest_71 (by decide) (fun hz => ?_) (fun hz => ?_)
    · have hz := hq_n0 ((hq_ieq _ _).mp hz)
      refine hq_inc (a := u) (d := 1) (lv' := [(8, .int (nI (u + 1))), (7, .int (hq_i (hq_rm v j))), (6, .int (nI j)), (5, .int (nI d)), (4, .int (nI v)), (3, .int (nI ff)), (2, .int (nI bs)), (1, .int (nI i)), (0, .ref a0)]) hx hb dX1_nearest_77 hl (k := 0) rfl (by decide) (by decide) rfl (fun ls hl => ?_)
      refine lv_goto (tgt := 43) hx hb dX1_nearest_80 (by decide) ?_
      exact ih (u + 1) (by omega) d (by show _ = D0 + (hq_sn (fun z => hq_n (wd (i * 384 + z * 128 + j) ^^ hq_rm v j)) u + hq_n (wd (i * 384 + u * 128 + j) ^^ hq_rm v j)); rw [hz]; omega) _ _ _ hK hP hD hS hl
    · have hz := hq_n1 (fun z => hz ((hq_ieq _ _).mpr z))
      refine hq_inc (a := d) (d := 1) (lv' := [(5, .int (nI (d + 1))), (8, .int (nI u)), (7, .int (hq_i (hq_rm v j))), (6, .int (nI j)), (4, .int (nI v)), (3, .int (nI ff)), (2, .int (nI bs)), (1, .int (nI i)), (0, .ref a0)]) hx hb dX1_nearest_74 hl (k := 3) rfl (by decide) (by decide) rfl (fun ls hl => ?_)
      refine hq_inc (a := u) (d := 1) (lv' := [(8, .int (nI (u + 1))), (5, .int (nI (d + 1))), (7, .int (hq_i (hq_rm v j))), (6, .int (nI j)), (4, .int (nI v)), (3, .int (nI ff)), (2, .int (nI bs)), (1, .int (nI i)), (0, .ref a0)]) hx hb dX1_nearest_77 hl (k := 1) rfl (by decide) (by decide) rfl (fun ls hl => ?_)
      refine lv_goto (tgt := 43) hx hb dX1_nearest_80 (by decide) ?_
      exact ih (u + 1) (by omega) (d + 1) (by show _ = D0 + (hq_sn (fun z => hq_n (wd (i * 384 + z * 128 + j) ^^ hq_rm v j)) u + hq_n (wd (i * 384 + u * 128 + j) ^^ hq_rm v j)); rw [hz]; omega) _ _ _ hK hP hD hS (lv_sub hl [0, 2, 3, 1, 4, 5, 6, 7, 8] rfl)
set_option maxHeartbeats 4000000 in
set_option maxRecDepth 100000 in
theorem hq_ne2 {p : Program} {l : Launch} {e : Env} {R : Room} {s : State} {m : MethodId} {args : Array Value} {below : List Frame} {meth : Method} {c : Code} {cells slots : Nat} {Q : State → Prop} {D : va_G} {A : Nat → Prop} {H0 : Heap} {a0 a1 a2 : Nat} {dI dZ : ClassId} {gl gw : Nat → Int32} {cn : Nat} {wd : Nat → Bool} {i v ff bs : Nat} (hx : p.tables.exec = Jvm.exec) (hb : c.code = cX1_nearest) (hml : c.maxLocals = 9) (hown : s.vm.findClass RX1 = some m.cls) (hts : ∀ w ∈ lw_all, w.before args s = true) (hA : ∀ q : Nat, H0.size ≤ q → A q) (hRf : 1 ≤ R.frames) (hRl : 23 ≤ R.locals) (hRc : cells ≤ R.cells) (hRs : slots ≤ R.slots) (hgw : ∀ k, k < 1536 → gw k = hq_i (wd k)) (hi : i < 4)
    (ex : ∀ (d : Nat), d = hq_sn (hq_d wd i v) 128 → hq_At p l e R s m args below meth c cells slots Q D A H0 9 [(dI, .int), (dZ, .boolean)] [(a0, .inr (1, [.ref a1, .ref a2, .int (nI cn)])), (a1, .inl (dI, 4, .inl gl)), (a2, .inl (dZ, 1536, .inl gw))] [(6, .int (nI 128)), (5, .int (nI d)), (4, .int (nI v)), (3, .int (nI ff)), (2, .int (nI bs)), (1, .int (nI i)), (0, .ref a0)] 89) :
    ∀ (n j : Nat), j + n = 128 → ∀ (d : Nat), d = hq_sn (hq_d wd i v) j → hq_At p l e R s m args below meth c cells slots Q D A H0 9 [(dI, .int), (dZ, .boolean)] [(a0, .inr (1, [.ref a1, .ref a2, .int (nI cn)])), (a1, .inl (dI, 4, .inl gl)), (a2, .inl (dZ, 1536, .inl gw))] [(6, .int (nI j)), (5, .int (nI d)), (4, .int (nI v)), (3, .int (nI ff)), (2, .int (nI bs)), (1, .int (nI i)), (0, .ref a0)] 23 := by
  intro n
  induction n with
  | zero =>
    intro j hn d hv H locs ls hK hP hD hS hl
    obtain rfl : j = 128 := by omega
    refine lv_iload hx hb dX1_nearest_23 (lv_at hl 0 rfl) ?_
    refine lv_sipush (v := nI 128) hx hb dX1_nearest_25 (by decide) ?_
    refine hq_geT (tgt := 89) hx hb dX1_nearest_28 (by decide) (Nat.le_refl _) (by omega) ?_
    exact ex d hv _ _ _ hK hP hD hS hl
  | succ n ih =>
    intro j hn d hv H locs ls hK hP hD hS hl
    refine lv_iload hx hb dX1_nearest_23 (lv_at hl 0 rfl) ?_
    refine lv_sipush (v := nI 128) hx hb dX1_nearest_25 (by decide) ?_
    refine hq_geF (tgt := 89) hx hb dX1_nearest_28 (by decide) (by omega) (by omega) ?_
    refine lv_iload hx hb dX1_nearest_31 (lv_at hl 2 rfl) ?_
    refine lv_iload hx hb dX1_nearest_33 (lv_at hl 0 rfl) ?_
    refine hq_callSi (As := [.int (nI v), .int (nI j)]) (rest := []) (wr := [(a0, .inr (1, [.ref a1, .ref a2, .int (nI cn)])), (a1, .inl (dI, 4, .inl gl)), (a2, .inl (dZ, 1536, .inl gw))]) (tr := [(dI, .int), (dZ, .boolean)]) (cells' := cells) (slots' := slots) ⟨hx, hb, hml, hown, hts⟩ (metX1_place l D _ v j) 2 q118 q119 q3 q120 (by decide +kernel) rfl ⟨hRf, hRl⟩ ⟨hRc, hRs⟩ ⟨Nat.le_refl _, Nat.le_refl _⟩ hl rfl (Nat.le_of_ble_eq_true rfl) dX1_nearest_35 hK hP hD hS hA [] [0, 1, 2] rfl rfl (by decide) (by decide) (by decide) [] [0, 1] rfl rfl (fun r _ H locs hw hK hP hD hS => ?_)
    subst hw
    have hP : va_P D vwCl [(a0, .inr (1, [.ref a1, .ref a2, .int (nI cn)])), (a1, .inl (dI, 4, .inl gl)), (a2, .inl (dZ, 1536, .inl gw))] H := hP
    have hD : va_D A [(a0, .inr (1, [.ref a1, .ref a2, .int (nI cn)])), (a1, .inl (dI, 4, .inl gl)), (a2, .inl (dZ, 1536, .inl gw))] := hD
    have hK : va_K D vwCl [(dI, .int), (dZ, .boolean)] s := hK
    refine lv_istore (lv' := [(7, .int (hq_i (hq_rm v j))), (6, .int (nI j)), (5, .int (nI d)), (4, .int (nI v)), (3, .int (nI ff)), (2, .int (nI bs)), (1, .int (nI i)), (0, .ref a0)]) hx hb dX1_nearest_38 hl (by decide) rfl (fun ls hl => ?_)
    refine lv_iconst (v := nI 0) hx hb dX1_nearest_40 (by decide) ?_
    refine lv_istore (lv' := [(8, .int (nI 0)), (7, .int (hq_i (hq_rm v j))), (6, .int (nI j)), (5, .int (nI d)), (4, .int (nI v)), (3, .int (nI ff)), (2, .int (nI bs)), (1, .int (nI i)), (0, .ref a0)]) hx hb dX1_nearest_41 hl (by decide) rfl (fun ls hl => ?_)
    refine hq_ne3 (D0 := d) hx hb hml hown hts hA hgw hi (show j < 128 by omega) (fun d2 hv2 H locs ls hK hP hD hS hl => ?_) 3 0 rfl d rfl _ _ _ hK hP hD hS hl
    refine hq_inc (a := j) (d := 1) (lv' := [(6, .int (nI (j + 1))), (8, .int (nI 3)), (7, .int (hq_i (hq_rm v j))), (5, .int (nI d2)), (4, .int (nI v)), (3, .int (nI ff)), (2, .int (nI bs)), (1, .int (nI i)), (0, .ref a0)]) hx hb dX1_nearest_83 hl (k := 2) rfl (by decide) (by decide) rfl (fun ls hl => ?_)
    refine lv_goto (tgt := 23) hx hb dX1_nearest_86 (by decide) ?_
    exact ih (j + 1) (by omega) d2 (by rw [hv2, hv]; rfl) _ _ _ hK hP hD hS (lv_sub hl [0, 3, 4, 5, 6, 7, 8] rfl)
def hq_neI (wd : Nat → Bool) (vl : Nat → Nat) (i v ff bs : Nat) : Prop := ff ≤ 385 ∧ (v ≤ vl i → 41 ≤ ff) ∧ (vl i < v → bs = vl i ∧ ff ≤ 40)
theorem hq_neT {wd : Nat → Bool} {vl : Nat → Nat} {i v ff bs : Nat} (hn : hq_near wd vl 40) (hi : i < 4) (hv : v < 256) (h : hq_neI wd vl i v ff bs) (hlt : hq_D wd i v < ff) : hq_neI wd vl i (v + 1) (hq_D wd i v) v := by
  have h1 := hq_near_D hn hi
  have h2 := hq_D_le wd i v
  by_cases e : v = vl i
  · subst e
    exact ⟨by omega, fun z => by omega, fun z => ⟨rfl, h1⟩⟩
  · have h3 := hq_far hn hi hv e
    refine ⟨by omega, fun z => by omega, fun z => ?_⟩
    have h4 := h.2.2 (by omega)
    omega
theorem hq_neF {wd : Nat → Bool} {vl : Nat → Nat} {i v ff bs : Nat} (hn : hq_near wd vl 40) (hi : i < 4) (h : hq_neI wd vl i v ff bs) (hlt : ff ≤ hq_D wd i v) : hq_neI wd vl i (v + 1) ff bs := by
  have h1 := hq_near_D hn hi
  refine ⟨h.1, fun z => h.2.1 (by omega), fun z => ?_⟩
  by_cases e : v = vl i
  · subst e
    have := h.2.1 (Nat.le_refl _)
    omega
  · exact h.2.2 (by omega)
set_option maxHeartbeats 4000000 in
set_option maxRecDepth 100000 in
theorem hq_ne1 {p : Program} {l : Launch} {e : Env} {R : Room} {s : State} {m : MethodId} {args : Array Value} {below : List Frame} {meth : Method} {c : Code} {cells slots : Nat} {Q : State → Prop} {D : va_G} {A : Nat → Prop} {H0 : Heap} {a0 a1 a2 : Nat} {dI dZ : ClassId} {gl gw : Nat → Int32} {cn : Nat} {wd : Nat → Bool} {i : Nat} {vl : Nat → Nat} (hx : p.tables.exec = Jvm.exec) (hb : c.code = cX1_nearest) (hml : c.maxLocals = 9) (hown : s.vm.findClass RX1 = some m.cls) (hts : ∀ w ∈ lw_all, w.before args s = true) (hA : ∀ q : Nat, H0.size ≤ q → A q) (hRf : 1 ≤ R.frames) (hRl : 23 ≤ R.locals) (hRc : cells ≤ R.cells) (hRs : slots ≤ R.slots) (hgw : ∀ k, k < 1536 → gw k = hq_i (wd k)) (hi : i < 4) (hnr : hq_near wd vl 40)
    (ex : ∀ (ff bs : Nat), hq_neI wd vl i 256 ff bs → hq_At p l e R s m args below meth c cells slots Q D A H0 9 [(dI, .int), (dZ, .boolean)] [(a0, .inr (1, [.ref a1, .ref a2, .int (nI cn)])), (a1, .inl (dI, 4, .inl gl)), (a2, .inl (dZ, 1536, .inl gw))] [(4, .int (nI 256)), (3, .int (nI ff)), (2, .int (nI bs)), (1, .int (nI i)), (0, .ref a0)] 107) :
    ∀ (n v : Nat), v + n = 256 → ∀ (ff bs : Nat), hq_neI wd vl i v ff bs → hq_At p l e R s m args below meth c cells slots Q D A H0 9 [(dI, .int), (dZ, .boolean)] [(a0, .inr (1, [.ref a1, .ref a2, .int (nI cn)])), (a1, .inl (dI, 4, .inl gl)), (a2, .inl (dZ, 1536, .inl gw))] [(4, .int (nI v)), (3, .int (nI ff)), (2, .int (nI bs)), (1, .int (nI i)), (0, .ref a0)] 9 := by
  intro n
  induction n with
  | zero =>
    intro v hn ff bs hv H locs ls hK hP hD hS hl
    obtain rfl : v = 256 := by omega
    refine lv_iload hx hb dX1_nearest_9 (lv_at hl 0 rfl) ?_
    refine lv_sipush (v := nI 256) hx hb dX1_nearest_11 (by decide) ?_
    refine hq_geT (tgt := 107) hx hb dX1_nearest_14 (by decide) (Nat.le_refl _) (by omega) ?_
    exact ex ff bs hv _ _ _ hK hP hD hS hl
  | succ n ih =>
    intro v hn ff bs hv H locs ls hK hP hD hS hl
    refine lv_iload hx hb dX1_nearest_9 (lv_at hl 0 rfl) ?_
    refine lv_sipush (v := nI 256) hx hb dX1_nearest_11 (by decide) ?_
    refine hq_geF (tgt := 107) hx hb dX1_nearest_14 (by decide) (by omega) (by omega) ?_
    refine lv_iconst (v := nI 0) hx hb dX1_nearest_17 (by decide) ?_
    refine lv_istore (lv' := [(5, .int (nI 0)), (4, .int (nI v)), (3, .int (nI ff)), (2, .int (nI bs)), (1, .int (nI i)), (0, .ref a0)]) hx hb dX1_nearest_18 hl (by decide) rfl (fun ls hl => ?_)
    refine lv_iconst (v := nI 0) hx hb dX1_nearest_20 (by decide) ?_
    refine lv_istore (lv' := [(6, .int (nI 0)), (5, .int (nI 0)), (4, .int (nI v)), (3, .int (nI ff)), (2, .int (nI bs)), (1, .int (nI i)), (0, .ref a0)]) hx hb dX1_nearest_21 hl (by decide) rfl (fun ls hl => ?_)
    refine hq_ne2 hx hb hml hown hts hA hRf hRl hRc hRs hgw hi (fun d hd H locs ls hK hP hD hS hl => ?_) 128 0 rfl 0 rfl _ _ _ hK hP hD hS hl
    have hDle := hq_D_le wd i v
    have hd : d = hq_D wd i v := hd
    have hff := hv.1
    by_cases hlt : d < ff
    · refine lv_iload hx hb dX1_nearest_89 (lv_at hl 1 rfl) ?_
      refine lv_iload_n hx hb dX1_nearest_91 rfl (lv_at hl 3 rfl) ?_
      refine hq_geF (tgt := 101) hx hb dX1_nearest_92 (by decide) (hlt) (by omega) ?_
      refine lv_iload hx hb dX1_nearest_95 (lv_at hl 1 rfl) ?_
      refine lv_istore_n (lv' := [(3, .int (nI d)), (6, .int (nI 128)), (5, .int (nI d)), (4, .int (nI v)), (2, .int (nI bs)), (1, .int (nI i)), (0, .ref a0)]) hx hb dX1_nearest_97 rfl hl (by decide) rfl (fun ls hl => ?_)
      refine lv_iload hx hb dX1_nearest_98 (lv_at hl 3 rfl) ?_
      refine lv_istore_n (lv' := [(2, .int (nI v)), (3, .int (nI d)), (6, .int (nI 128)), (5, .int (nI d)), (4, .int (nI v)), (1, .int (nI i)), (0, .ref a0)]) hx hb dX1_nearest_100 rfl hl (by decide) rfl (fun ls hl => ?_)
      refine hq_inc (a := v) (d := 1) (lv' := [(4, .int (nI (v + 1))), (2, .int (nI v)), (3, .int (nI d)), (6, .int (nI 128)), (5, .int (nI d)), (1, .int (nI i)), (0, .ref a0)]) hx hb dX1_nearest_101 hl (k := 4) rfl (by decide) (by decide) rfl (fun ls hl => ?_)
      refine lv_goto (tgt := 9) hx hb dX1_nearest_104 (by decide) ?_
      exact ih (v + 1) (by omega) d v (by rw [hd]; exact hq_neT hnr hi (by omega) hv (by rw [← hd]; exact hlt)) _ _ _ hK hP hD hS (lv_sub hl [0, 2, 1, 5, 6] rfl)
    · refine lv_iload hx hb dX1_nearest_89 (lv_at hl 1 rfl) ?_
      refine lv_iload_n hx hb dX1_nearest_91 rfl (lv_at hl 3 rfl) ?_
      refine hq_geT (tgt := 101) hx hb dX1_nearest_92 (by decide) (Nat.le_of_not_lt hlt) (by omega) ?_
      refine hq_inc (a := v) (d := 1) (lv' := [(4, .int (nI (v + 1))), (6, .int (nI 128)), (5, .int (nI d)), (3, .int (nI ff)), (2, .int (nI bs)), (1, .int (nI i)), (0, .ref a0)]) hx hb dX1_nearest_101 hl (k := 2) rfl (by decide) (by decide) rfl (fun ls hl => ?_)
      refine lv_goto (tgt := 9) hx hb dX1_nearest_104 (by decide) ?_
      exact ih (v + 1) (by omega) ff bs (hq_neF hnr hi hv (by omega)) _ _ _ hK hP hD hS (lv_sub hl [0, 3, 4, 5, 6] rfl)
set_option maxHeartbeats 4000000 in
set_option maxRecDepth 100000 in
/-- nearest(i): of a word near the words of four letters, the letter -/
theorem metX1_nearest (l : Launch) (D : va_G) (a0 a1 a2 : Nat) (dI dZ : ClassId) (sz : Nat) (gl gw : Nat → Int32) (cn : Nat) (i : Nat) (hi : i < 4) (wd : Nat → Bool) (vl : Nat → Nat) (hgw : ∀ k, k < 1536 → gw k = hq_i (wd k)) (hn : hq_near wd vl 40) :
    hq_Mi (S := Unit) l yX1_nearest cX1_nearest 9 .int ({ frames := 1, cells := 0, slots := 0, locals := 23 }) D [.ref a0, .int (nI i)] sz [(a0, .inr (1, [.ref a1, .ref a2, .int (nI cn)])), (a1, .inl (dI, 4, .inl gl)), (a2, .inl (dZ, 1536, .inl gw))] [(dI, .int), (dZ, .boolean)] (fun r _ => r = nI (vl i)) (fun _ => [(a0, .inr (1, [.ref a1, .ref a2, .int (nI cn)])), (a1, .inl (dI, 4, .inl gl)), (a2, .inl (dZ, 1536, .inl gw))]) (fun _ => [(dI, .int), (dZ, .boolean)]) := by
  refine hq_startI (by decide) (Nat.le_of_ble_eq_true rfl) ?_
  intro p e s m below meth c A ls hx hb hr hml hown hlocks hname hts hK hP hD hS hA hl
  have hown : s.vm.findClass RX1 = some m.cls := hown
  have hl : lv_has ls 9 [(0, .ref a0), (1, .int (nI i))] := hl
  refine lv_iconst (v := nI 0) hx hb dX1_nearest_0 (by decide) ?_
  refine lv_istore_n (lv' := [(2, .int (nI 0)), (0, .ref a0), (1, .int (nI i))]) hx hb dX1_nearest_1 rfl hl (by decide) rfl (fun ls hl => ?_)
  refine lv_sipush (v := nI 385) hx hb dX1_nearest_2 (by decide) ?_
  refine lv_istore_n (lv' := [(3, .int (nI 385)), (2, .int (nI 0)), (0, .ref a0), (1, .int (nI i))]) hx hb dX1_nearest_5 rfl hl (by decide) rfl (fun ls hl => ?_)
  refine lv_iconst (v := nI 0) hx hb dX1_nearest_6 (by decide) ?_
  refine lv_istore (lv' := [(4, .int (nI 0)), (3, .int (nI 385)), (2, .int (nI 0)), (0, .ref a0), (1, .int (nI i))]) hx hb dX1_nearest_7 hl (by decide) rfl (fun ls hl => ?_)
  have hvi := hn.1 i hi
  refine hq_ne1 (vl := vl) hx hb hml hown hts hA (by decide) (by decide) (by decide) (by decide) hgw hi hn (fun ff bs hv H locs ls hK hP hD hS hl => ?_) 256 0 rfl 385 0 ⟨by omega, fun _ => by omega, fun z => absurd z (Nat.not_lt_zero _)⟩ _ _ _ hK hP hD hS (lv_sub hl [0, 1, 2, 4, 3] rfl)
  refine lv_iload_n hx hb dX1_nearest_107 rfl (lv_at hl 2 rfl) ?_
  exact hq_iret hx hb hr hlocks dX1_nearest_108 hK hP hD hS () (by rw [(hv.2.2 hvi).1]) ⟨by decide, by decide⟩ [0, 1, 2] rfl (by decide) [0, 1] rfl
set_option maxHeartbeats 4000000 in
set_option maxRecDepth 100000 in
theorem hq_mrL {p : Program} {l : Launch} {e : Env} {R : Room} {s : State} {m : MethodId} {args : Array Value} {below : List Frame} {meth : Method} {c : Code} {cells slots : Nat} {Q : State → Prop} {D : va_G} {A : Nat → Prop} {H0 : Heap} {a0 a1 a2 : Nat} {dI dZ : ClassId} {gl gw : Nat → Int32} {cn : Nat} {wd : Nat → Bool} {vl : Nat → Nat} (hx : p.tables.exec = Jvm.exec) (hb : c.code = cX1_read) (hml : c.maxLocals = 3) (hown : s.vm.findClass RX1 = some m.cls) (hts : ∀ w ∈ lw_all, w.before args s = true) (hA : ∀ q : Nat, H0.size ≤ q → A q) (hRf : 2 ≤ R.frames) (hRl : 51 ≤ R.locals) (hRc : cells ≤ R.cells) (hRs : slots ≤ R.slots) (hgw : ∀ k, k < 1536 → gw k = hq_i (wd k)) (hnr : hq_near wd vl 40)
    (ex : True → hq_At p l e R s m args below meth c cells slots Q D A H0 3 [(dI, .int), (dZ, .boolean)] [(a0, .inr (1, [.ref a1, .ref a2, .int (nI cn)])), (a1, .inl (dI, 4, .inl gl)), (a2, .inl (dZ, 1536, .inl gw))] [(2, .int (nI 4)), (1, .int (hq_pk vl 4)), (0, .ref a0)] 26) :
    ∀ (n i : Nat), i + n = 4 → True → hq_At p l e R s m args below meth c cells slots Q D A H0 3 [(dI, .int), (dZ, .boolean)] [(a0, .inr (1, [.ref a1, .ref a2, .int (nI cn)])), (a1, .inl (dI, 4, .inl gl)), (a2, .inl (dZ, 1536, .inl gw))] [(2, .int (nI i)), (1, .int (hq_pk vl i)), (0, .ref a0)] 4 := by
  intro n
  induction n with
  | zero =>
    intro i hn  hv H locs ls hK hP hD hS hl
    obtain rfl : i = 4 := by omega
    refine lv_iload_n hx hb dX1_read_4 rfl (lv_at hl 0 rfl) ?_
    refine lv_iconst (v := nI 4) hx hb dX1_read_5 (by decide) ?_
    refine hq_geT (tgt := 26) hx hb dX1_read_6 (by decide) (Nat.le_refl _) (by omega) ?_
    exact ex trivial _ _ _ hK hP hD hS hl
  | succ n ih =>
    intro i hn  hv H locs ls hK hP hD hS hl
    refine lv_iload_n hx hb dX1_read_4 rfl (lv_at hl 0 rfl) ?_
    refine lv_iconst (v := nI 4) hx hb dX1_read_5 (by decide) ?_
    refine hq_geF (tgt := 26) hx hb dX1_read_6 (by decide) (by omega) (by omega) ?_
    refine lv_iload_n hx hb dX1_read_9 rfl (lv_at hl 1 rfl) ?_
    refine lv_bipush (v := nI 8) hx hb dX1_read_10 (by decide) ?_
    refine lv_ishl hx hb dX1_read_12 ?_
    refine lv_aload_n hx hb dX1_read_13 rfl (lv_at hl 2 rfl) ?_
    refine lv_iload_n hx hb dX1_read_14 rfl (lv_at hl 0 rfl) ?_
    refine hq_callVi (As := [.int (nI i)]) (rest := [.int ((hq_pk vl i) <<< ((nI 8) &&& 31))]) (wr := []) (tr := []) (cells' := cells) (slots' := slots) ⟨hx, hb, hml, hown, hts⟩ (metX1_nearest l D a0 a1 a2 dI dZ _ gl gw cn i (by omega) wd vl hgw hnr) 1 (ci := 1) rfl rfl q137 q139 qs0 q3 q140 (by decide +kernel) rfl ⟨hRf, hRl⟩ ⟨hRc, hRs⟩ ⟨Nat.le_refl _, Nat.le_refl _⟩ hl rfl (Nat.le_of_ble_eq_true rfl) dX1_read_15 hK hP hD hS hA [0, 1, 2] [] rfl rfl (by decide) (by decide) (by decide) [0, 1] [] rfl rfl (fun r _ H locs hw hK hP hD hS => ?_)
    subst hw
    have hP : va_P D vwCl [(a0, .inr (1, [.ref a1, .ref a2, .int (nI cn)])), (a1, .inl (dI, 4, .inl gl)), (a2, .inl (dZ, 1536, .inl gw))] H := hP
    have hD : va_D A [(a0, .inr (1, [.ref a1, .ref a2, .int (nI cn)])), (a1, .inl (dI, 4, .inl gl)), (a2, .inl (dZ, 1536, .inl gw))] := hD
    have hK : va_K D vwCl [(dI, .int), (dZ, .boolean)] s := hK
    refine lv_ior hx hb dX1_read_18 ?_
    refine hq_ti (hq_pk vl (i + 1)) (rfl) ?_
    refine lv_istore_n (lv' := [(1, .int (hq_pk vl (i + 1))), (2, .int (nI i)), (0, .ref a0)]) hx hb dX1_read_19 rfl hl (by decide) rfl (fun ls hl => ?_)
    refine hq_inc (a := i) (d := 1) (lv' := [(2, .int (nI (i + 1))), (1, .int (hq_pk vl (i + 1))), (0, .ref a0)]) hx hb dX1_read_20 hl (k := 1) rfl (by decide) (by decide) rfl (fun ls hl => ?_)
    refine lv_goto (tgt := 4) hx hb dX1_read_23 (by decide) ?_
    exact ih (i + 1) (by omega) trivial _ _ _ hK hP hD hS hl
set_option maxHeartbeats 4000000 in
set_option maxRecDepth 100000 in
/-- read(): of a word near the words of four letters, the letters in one number -/
theorem metX1_read (l : Launch) (D : va_G) (a0 a1 a2 : Nat) (dI dZ : ClassId) (sz : Nat) (gl gw : Nat → Int32) (cn : Nat) (wd : Nat → Bool) (vl : Nat → Nat) (hgw : ∀ k, k < 1536 → gw k = hq_i (wd k)) (hn : hq_near wd vl 40) :
    hq_Mi (S := Unit) l yX1_read cX1_read 3 .int ({ frames := 2, cells := 0, slots := 0, locals := 51 }) D [.ref a0] sz [(a0, .inr (1, [.ref a1, .ref a2, .int (nI cn)])), (a1, .inl (dI, 4, .inl gl)), (a2, .inl (dZ, 1536, .inl gw))] [(dI, .int), (dZ, .boolean)] (fun r _ => r = hq_pk vl 4) (fun _ => [(a0, .inr (1, [.ref a1, .ref a2, .int (nI cn)])), (a1, .inl (dI, 4, .inl gl)), (a2, .inl (dZ, 1536, .inl gw))]) (fun _ => [(dI, .int), (dZ, .boolean)]) := by
  refine hq_startI (by decide) (Nat.le_of_ble_eq_true rfl) ?_
  intro p e s m below meth c A ls hx hb hr hml hown hlocks hname hts hK hP hD hS hA hl
  have hown : s.vm.findClass RX1 = some m.cls := hown
  have hl : lv_has ls 3 [(0, .ref a0)] := hl
  refine lv_iconst (v := nI 0) hx hb dX1_read_0 (by decide) ?_
  refine lv_istore_n (lv' := [(1, .int (nI 0)), (0, .ref a0)]) hx hb dX1_read_1 rfl hl (by decide) rfl (fun ls hl => ?_)
  refine lv_iconst (v := nI 0) hx hb dX1_read_2 (by decide) ?_
  refine lv_istore_n (lv' := [(2, .int (nI 0)), (1, .int (nI 0)), (0, .ref a0)]) hx hb dX1_read_3 rfl hl (by decide) rfl (fun ls hl => ?_)
  refine hq_mrL hx hb hml hown hts hA (by decide) (by decide) (by decide) (by decide) hgw hn (fun hv H locs ls hK hP hD hS hl => ?_) 4 0 rfl trivial _ _ _ hK hP hD hS hl
  refine lv_iload_n hx hb dX1_read_26 rfl (lv_at hl 1 rfl) ?_
  exact hq_iret hx hb hr hlocks dX1_read_27 hK hP hD hS () rfl ⟨by decide, by decide⟩ [0, 1, 2] rfl (by decide) [0, 1] rfl
end
section
set_option maxRecDepth 100000
/-! THE CLAIM OUT OF ONE WALK OF THE LAW'S BODY. Your part is whole_start (and what it stands on); all else here is the same for every law, but numbers. -/
def R_law : String := "InnerCodeLaw"
def lw_P (b : Addr) (xs : List Int32) (args : Array Value) (s : State) : Prop := args = #[.ref b] ∧ s.IntsAt b xs ∧ xs.length ≤ 288 ∧ (Jvm.Cond.and given_1 narrow_1).before args s = true
def lw_Q (_ : Array Value) (s : State) (o : Outcome) (t : State) : Prop := o = .returned (some (.int 1)) ∧ Framed s o t [] 1200000 5502250
def lw_Z (below : List Frame) (a : Array Value) (s : State) : State → Prop := fun t => ∃ o, t.status = .running ∧ Ended t below o ∧ lw_Q a s o t
/-- the law's own end, with 1 on the stack, nothing written that was there before, its room as the claim has it -/
theorem lw_ret {p : Program} {l : Launch} {e : Env} {s : State} {m : MethodId} {below : List Frame} {meth : Method} {c : Code} {b : Nat} (hx : p.tables.exec = Jvm.exec) (hb : c.code = code) (hr : meth.sig.returnType = ret) (hlocks : meth.locks = false) {pc : Nat} {H : Heap} {ls : Array Slot} (hdg : decode code pc = .ok (.ireturn, 1)) : W p l e room_1 s m #[Value.ref b] below meth c H [] 1200000 5502250 (lw_Z below #[Value.ref b] s) (F0 m pc ls [.int 1]) := by
  intro T hT X
  obtain ⟨fs, hret, hrun, hended, hW, hframe⟩ := X.leave (v := some (.int 1)) (hlocks := hlocks) (fun h => by rw [hr] at h; cases h)
  have hmeth' : T.vm.method? m = some meth := X.method'
  refine ⟨T.setFrames fs, ?_, .returned (some (.int 1)), hrun, hended, rfl, ⟨_, rfl⟩, hW, hframe⟩
  jvm_step X.here [X.here.top, hx, hb, hdg, hmeth', hr, ret, narrow_b1]
  (try refine ⟨rfl, ?_⟩); (try refine ⟨rfl, ?_⟩)
  first | (intro acts; rw [hret _ acts rfl rfl rfl]) | rw [hret _ _ rfl rfl rfl]
  exact Steps.refl _
/-- what holds at the law's entry: the machine, the code, the tables' words (any of lw_tbl by 'hts w (by decide +kernel)'), the script of L ints xs at the cell b, what the Statement gives of the start (any of its parts by flat_of_before) -/
def lw_At (p : Program) (s : State) (m : MethodId) (meth : Method) (c : Code) (b L : Nat) (xs : Nat → Int32) : Prop :=
  p.tables.exec = Jvm.exec ∧ c.code = code ∧ meth.sig.returnType = ret ∧ c.maxLocals = 4 ∧ s.vm.findClass R_law = some m.cls ∧ (∀ w ∈ lw_tbl, w.before #[Value.ref b] s = true) ∧ va_X b L xs s s.heap ∧ b < s.heap.size ∧ meth.locks = false ∧ (Jvm.Cond.and given_1 narrow_1).before #[Value.ref b] s = true
/-! ===== our part: the law's loop and its start ===== -/
section HQL
variable {p : Program} {l : Launch} {e : Env} {R : Room} {s : State} {m : MethodId} {args : Array Value} {below : List Frame} {meth : Method} {c : Code} {H : Heap} {locs : List Loc} {cells slots : Nat} {Q : State → Prop} {cc : ByteArray} {pc : Nat} {ls : Array Slot} {rest : List Value} {A : Nat → Prop} {H0 : Heap}
theorem hq_rs (hx : p.tables.exec = Jvm.exec) (hb : c.code = cc) {b L : Nat} {xs : Nat → Int32} (hX : va_X b L xs s H0) (hbl : b < H0.size) (hbA : ¬ A b) (hS : va_S A H0 H locs) {i : Nat} (hi : i < L) (hL : L < 2 ^ 31) (hdg : decode cc pc = .ok (.iaload, 1))
    (kk : W p l e R s m args below meth c H locs cells slots Q (F0 m (pc + 1) ls (.int (xs i) :: rest))) : W p l e R s m args below meth c H locs cells slots Q (F0 m pc ls (.int (nI i) :: .ref b :: rest)) :=
  va_sld hx hb hX hbl hbA hS (vp_in_nI hi hL) hdg (by rw [nI_clamp (Nat.lt_trans hi hL)]; exact kk)
end HQL
theorem hq_lawc {L i : Nat} (hL : L ≤ 288) (hi : i ≤ 300) : nI L - nI 6 < nI i ↔ L < i + 6 := by
  rw [Int32.lt_iff_toInt_lt, pk_sub_toInt (by omega) (by omega), nI_toInt (by omega)]
  omega
/-- what the law's loop keeps: both sides hold the same letters, the same word, the same count, and the word is near that of the letters last written -/
def hq_LI (fl : Nat → Int32) (fw : Nat → Int64) (cn : Nat) (gl gw : Nat → Int32) (vl wl : Nat → Nat) : Prop :=
  (∀ j, j < 4 → vl j < 256) ∧ (∀ j, j < 4 → fl j = hq_by (vl j)) ∧ (∀ j, j < 4 → gl j = nI (vl j)) ∧ (∀ k, k < 1536 → gw k = hq_i (hq_bl fw k)) ∧ hq_near (hq_bl fw) wl cn ∧ cn ≤ 40
theorem hq_LI_letter {fl : Nat → Int32} {fw : Nat → Int64} {cn : Nat} {gl gw : Nat → Int32} {vl wl : Nat → Nat} (h : hq_LI fl fw cn gl gw vl wl) (a x : Nat) (hx : x < 256) : hq_LI (upd fl a (hq_by x)) fw cn (upd gl a (nI x)) gw (va_up vl a x) wl := by
  obtain ⟨h1, h2, h3, h4, h5, h6⟩ := h
  refine ⟨fun j hj => ?_, fun j hj => ?_, fun j hj => ?_, h4, h5, h6⟩
  · unfold va_up
    split
    · exact hx
    · exact h1 j hj
  · unfold va_up upd
    by_cases e : j = a
    · rw [if_pos e, if_pos e]
    · rw [if_neg e, if_neg e]
      exact h2 j hj
  · unfold va_up upd
    by_cases e : j = a
    · rw [if_pos e, if_pos e]
    · rw [if_neg e, if_neg e]
      exact h3 j hj
theorem hq_LI_write {fl : Nat → Int32} {fw f1 : Nat → Int64} {cn : Nat} {gl gw g1 : Nat → Int32} {vl wl : Nat → Nat} (h : hq_LI fl fw cn gl gw vl wl) (h1 : ∀ k, k < 1536 → hq_bl f1 k = hq_rm (vl (k / 384)) (k % 128)) (h2 : ∀ k, k < 1536 → g1 k = hq_i (hq_rm (vl (k / 384)) (k % 128))) : hq_LI fl f1 0 gl g1 vl vl :=
  ⟨h.1, h.2.1, h.2.2.1, fun k hk => by rw [h2 k hk, h1 k hk], hq_near_0 h.1 h1, Nat.zero_le _⟩
theorem hq_LI_harm {fl : Nat → Int32} {fw f1 : Nat → Int64} {cn q : Nat} {gl gw g1 : Nat → Int32} {vl wl : Nat → Nat} (h : hq_LI fl fw cn gl gw vl wl) (hlt : cn < 40) (h1 : ∀ k, k < 1536 → hq_bl f1 k = (hq_bl fw k ^^ decide (k = q))) (h2 : ∀ k, k < 1536 → g1 k = hq_i (hq_bl fw k ^^ decide (k = q))) : hq_LI fl f1 (cn + 1) gl g1 vl wl :=
  ⟨h.1, h.2.1, h.2.2.1, fun k hk => by rw [h2 k hk, h1 k hk], hq_near_flip h.2.2.2.2.1 h1, by omega⟩
theorem hq_LI_0 : hq_LI (fun _ => 0) (fun _ => 0) 0 (fun _ => 0) (fun _ => 0) (fun _ => 0) (fun _ => 0) := by
  have hw : ∀ k, hq_bl (fun _ => 0) k = false := fun k => BitVec.getLsbD_zero
  have hr : ∀ j, hq_rm 0 j = false := fun j => by
    unfold hq_rm hq_rp hq_rp hq_rp hq_rp hq_rp hq_rp hq_rp hq_rp
    simp
  refine ⟨fun _ _ => (by decide : (0 : Nat) < 256), fun _ _ => (by decide : (0 : Int32) = hq_by 0), fun _ _ => (by decide : (0 : Int32) = nI 0), fun k _ => ?_, hq_near_0 (fun _ _ => (by decide : (0 : Nat) < 256)) (fun k _ => ?_), Nat.zero_le _⟩
  · rw [hw k]
    rfl
  · rw [hw k, hr]
set_option maxHeartbeats 4000000 in
set_option maxRecDepth 100000 in
/-- the law's loop at its head: t rounds done -/
theorem hq_law {p : Program} {l : Launch} {e : Env} {s : State} {m : MethodId} {below : List Frame} {meth : Method} {c : Code} {D : va_G} {A : Nat → Prop} {b L : Nat} {xs : Nat → Int32} {a0 a1 a2 a3 g0 g1 g2 : Nat} {dB dL dR dI dZ : ClassId} (hL : L ≤ 288) (C0 : lw_At p s m meth c b L xs)
    (hA : ∀ q : Nat, s.heap.size ≤ q → A q) (hA2 : ∀ q : Nat, A q → s.heap.size ≤ q) :
    ∀ (n t : Nat), t + n = 49 → ∀ (i : Nat), i = 6 * t → ∀ (fl : Nat → Int32) (fw : Nat → Int64) (fr : Nat → Int32) (cn : Nat) (gl gw : Nat → Int32) (vl wl : Nat → Nat), hq_LI fl fw cn gl gw vl wl → hq_At p l e room_1 s m #[Value.ref b] below meth c (7 + 4 * t) (1579 + 328 * t) (lw_Z below #[Value.ref b] s) D A s.heap 4 [(dB, .byte), (dL, .long), (dR, .byte), (dI, .int), (dZ, .boolean)] [(a0, .inr (0, [.ref a1, .ref a2, .ref a3, .int (nI cn)])), (a1, .inl (dB, 4, .inl fl)), (a2, .inl (dL, 24, .inr (.inl fw))), (a3, .inl (dR, 4, .inl fr)), (g0, .inr (1, [.ref g1, .ref g2, .int (nI cn)])), (g1, .inl (dI, 4, .inl gl)), (g2, .inl (dZ, 1536, .inl gw))] [(3, .int (nI i)), (2, .ref g0), (1, .ref a0), (0, .ref b)] 18 := by
  obtain ⟨hx, hb, hr, hml, hown, hts0, hX, hbl, hlocks, hgv⟩ := C0
  have hts : ∀ w ∈ lw_all, w.before #[Value.ref b] s = true := fun w h => hts0 w (lw_all_tbl h)
  have hbA : ¬ A b := fun h => Nat.not_le.mpr hbl (hA2 b h)
  intro n
  induction n with
  | zero =>
    intro t ht i hi fl fw fr cn gl gw vl wl hv H locs ls hK hP hD hS hl
    refine lv_iload_n hx hb dL_law_18 rfl (lv_at hl 0 rfl) ?_
    refine lv_aload_n hx hb dL_law_19 rfl (lv_at hl 3 rfl) ?_
    refine va_slen hx hb hX hbl hbA hS dL_law_20 ?_
    refine hq_ti (nI L) (rfl) ?_
    refine lv_bipush (v := nI 6) hx hb dL_law_21 (by decide) ?_
    refine lv_isub hx hb dL_law_23 ?_
    refine lv_icmp_gt (tgt := 202) hx hb dL_law_24 (by decide) (fun _ => ?_) (fun hz => absurd ((hq_lawc hL (by omega)).mpr (by omega)) hz)
    refine lv_iconst (v := 1) hx hb dL_law_202 (by decide) ?_
    refine va_forget (fun q hq => hA2 _ (hS.2.2 q hq)) ?_
    refine W.widen (k := 1200000) (n := 5502250) (by omega) (by omega) ?_
    exact lw_ret hx hb hr hlocks dL_law_203
  | succ n ih =>
    intro t ht i hi fl fw fr cn gl gw vl wl hv H locs ls hK hP hD hS hl
    refine lv_iload_n hx hb dL_law_18 rfl (lv_at hl 0 rfl) ?_
    refine lv_aload_n hx hb dL_law_19 rfl (lv_at hl 3 rfl) ?_
    refine va_slen hx hb hX hbl hbA hS dL_law_20 ?_
    refine hq_ti (nI L) (rfl) ?_
    refine lv_bipush (v := nI 6) hx hb dL_law_21 (by decide) ?_
    refine lv_isub hx hb dL_law_23 ?_
    refine lv_icmp_gt (tgt := 202) hx hb dL_law_24 (by decide) (fun hz => ?_) (fun hz => ?_)
    · refine lv_iconst (v := 1) hx hb dL_law_202 (by decide) ?_
      refine va_forget (fun q hq => hA2 _ (hS.2.2 q hq)) ?_
      refine W.widen (k := 1200000) (n := 5502250) (by omega) (by omega) ?_
      exact lw_ret hx hb hr hlocks dL_law_203
    · have hi6 : i + 6 ≤ L := Nat.le_of_not_lt (fun z => hz ((hq_lawc hL (by omega)).mpr z))
      refine lv_aload_n hx hb dL_law_27 rfl (lv_at hl 3 rfl) ?_
      refine lv_iload_n hx hb dL_law_28 rfl (lv_at hl 0 rfl) ?_
      refine hq_rs hx hb hX hbl hbA hS (by omega) (by omega) dL_law_29 ?_
      refine lv_bipush (v := nI 7) hx hb dL_law_30 (by decide) ?_
      refine lv_iand hx hb dL_law_32 ?_
      refine hq_ti (nI ((xs i).toBitVec.toNat % 8)) (pk_and _ 3 (by decide)) ?_
      have hz8 : (xs i).toBitVec.toNat % 8 < 8 := Nat.mod_lt _ (by decide)
      obtain ⟨z, hze⟩ : ∃ z, z = (xs i).toBitVec.toNat % 8 := ⟨_, rfl⟩
      rw [← hze] at hz8 ⊢
      have hz8 : z = 0 ∨ z = 1 ∨ z = 2 ∨ z = 3 ∨ z = 4 ∨ z = 5 ∨ z = 6 ∨ z = 7 := by omega
      rcases hz8 with q | q | q | q | q | q | q | q <;> subst q
      · refine lv_tableIn (off := 39) (tgt := 72) hx hb dL_law_33 (by decide) (by decide) (by decide) (by decide) ?_
        refine lv_aload_n hx hb dL_law_72 rfl (lv_at hl 2 rfl) ?_
        refine lv_aload_n hx hb dL_law_73 rfl (lv_at hl 3 rfl) ?_
        refine lv_iload_n hx hb dL_law_74 rfl (lv_at hl 0 rfl) ?_
        refine lv_iconst (v := nI 1) hx hb dL_law_75 (by decide) ?_
        refine hq_add hx hb dL_law_76 ?_
        refine hq_rs hx hb hX hbl hbA hS (by omega) (by omega) dL_law_77 ?_
        refine lv_aload_n hx hb dL_law_78 rfl (lv_at hl 3 rfl) ?_
        refine lv_iload_n hx hb dL_law_79 rfl (lv_at hl 0 rfl) ?_
        refine lv_iconst (v := nI 2) hx hb dL_law_80 (by decide) ?_
        refine hq_add hx hb dL_law_81 ?_
        refine hq_rs hx hb hX hbl hbA hS (by omega) (by omega) dL_law_82 ?_
        refine hq_callVv (As := [.int (xs (i + 1)), .int (xs (i + 2))]) (rest := []) (wr := [(g0, .inr (1, [.ref g1, .ref g2, .int (nI cn)])), (g1, .inl (dI, 4, .inl gl)), (g2, .inl (dZ, 1536, .inl gw))]) (tr := [(dI, .int), (dZ, .boolean)]) (cells' := (7 + 4 * (t + 1))) (slots' := (1579 + 328 * (t + 1))) ⟨hx, hb, hml, hown, hts⟩ (metX0_letter l D a0 a1 a2 a3 dB dL dR _ fl fw fr cn (xs (i + 1)) (xs (i + 2))) 2 (ci := 0) rfl rfl q30 q31 q32 q2 q33 (by decide +kernel) rfl ⟨by decide, by decide⟩ ⟨by show (7 + 4 * t) + 0 ≤ 1200000; omega, by show (1579 + 328 * t) + 0 ≤ 5502250; omega⟩ ⟨by show (7 + 4 * t) + 0 ≤ _; omega, by show (1579 + 328 * t) + 0 ≤ _; omega⟩ hl rfl (Nat.le_of_ble_eq_true rfl) dL_law_83 hK hP hD hS hA [0, 1, 2, 3] [4, 5, 6] rfl rfl (by decide) (by decide) (by decide) [0, 1, 2] [3, 4] rfl rfl (fun _ H locs hw hK hP hD hS => ?_)
        have hP : va_P D vwCl [(g0, .inr (1, [.ref g1, .ref g2, .int (nI cn)])), (g1, .inl (dI, 4, .inl gl)), (g2, .inl (dZ, 1536, .inl gw)), (a0, .inr (0, [.ref a1, .ref a2, .ref a3, .int (nI cn)])), (a1, .inl (dB, 4, .inl (upd fl ((xs (i + 1)).toBitVec.toNat % 4) (hq_by ((xs (i + 2)).toBitVec.toNat % 256))))), (a2, .inl (dL, 24, .inr (.inl fw))), (a3, .inl (dR, 4, .inl fr))] H := hP
        have hD : va_D A [(g0, .inr (1, [.ref g1, .ref g2, .int (nI cn)])), (g1, .inl (dI, 4, .inl gl)), (g2, .inl (dZ, 1536, .inl gw)), (a0, .inr (0, [.ref a1, .ref a2, .ref a3, .int (nI cn)])), (a1, .inl (dB, 4, .inl (upd fl ((xs (i + 1)).toBitVec.toNat % 4) (hq_by ((xs (i + 2)).toBitVec.toNat % 256))))), (a2, .inl (dL, 24, .inr (.inl fw))), (a3, .inl (dR, 4, .inl fr))] := hD
        have hK : va_K D vwCl [(dI, .int), (dZ, .boolean), (dB, .byte), (dL, .long), (dR, .byte)] s := hK
        refine lv_aload_n hx hb dL_law_86 rfl (lv_at hl 1 rfl) ?_
        refine lv_aload_n hx hb dL_law_87 rfl (lv_at hl 3 rfl) ?_
        refine lv_iload_n hx hb dL_law_88 rfl (lv_at hl 0 rfl) ?_
        refine lv_iconst (v := nI 1) hx hb dL_law_89 (by decide) ?_
        refine hq_add hx hb dL_law_90 ?_
        refine hq_rs hx hb hX hbl hbA hS (by omega) (by omega) dL_law_91 ?_
        refine lv_aload_n hx hb dL_law_92 rfl (lv_at hl 3 rfl) ?_
        refine lv_iload_n hx hb dL_law_93 rfl (lv_at hl 0 rfl) ?_
        refine lv_iconst (v := nI 2) hx hb dL_law_94 (by decide) ?_
        refine hq_add hx hb dL_law_95 ?_
        refine hq_rs hx hb hX hbl hbA hS (by omega) (by omega) dL_law_96 ?_
        refine hq_callVv (As := [.int (xs (i + 1)), .int (xs (i + 2))]) (rest := []) (wr := [(a0, .inr (0, [.ref a1, .ref a2, .ref a3, .int (nI cn)])), (a1, .inl (dB, 4, .inl (upd fl ((xs (i + 1)).toBitVec.toNat % 4) (hq_by ((xs (i + 2)).toBitVec.toNat % 256))))), (a2, .inl (dL, 24, .inr (.inl fw))), (a3, .inl (dR, 4, .inl fr))]) (tr := [(dB, .byte), (dL, .long), (dR, .byte)]) (cells' := (7 + 4 * (t + 1))) (slots' := (1579 + 328 * (t + 1))) ⟨hx, hb, hml, hown, hts⟩ (metX1_letter l D g0 g1 g2 dI dZ _ gl gw cn (xs (i + 1)) (xs (i + 2))) 2 (ci := 1) rfl rfl q106 q107 q108 q3 q109 (by decide +kernel) rfl ⟨by decide, by decide⟩ ⟨by show (7 + 4 * (t + 1)) + 0 ≤ 1200000; omega, by show (1579 + 328 * (t + 1)) + 0 ≤ 5502250; omega⟩ ⟨Nat.le_refl _, Nat.le_refl _⟩ hl rfl (Nat.le_of_ble_eq_true rfl) dL_law_97 hK hP hD hS hA [0, 1, 2] [3, 4, 5, 6] rfl rfl (by decide) (by decide) (by decide) [0, 1] [2, 3, 4] rfl rfl (fun _ H locs hw hK hP hD hS => ?_)
        have hP : va_P D vwCl [(a0, .inr (0, [.ref a1, .ref a2, .ref a3, .int (nI cn)])), (a1, .inl (dB, 4, .inl (upd fl ((xs (i + 1)).toBitVec.toNat % 4) (hq_by ((xs (i + 2)).toBitVec.toNat % 256))))), (a2, .inl (dL, 24, .inr (.inl fw))), (a3, .inl (dR, 4, .inl fr)), (g0, .inr (1, [.ref g1, .ref g2, .int (nI cn)])), (g1, .inl (dI, 4, .inl (upd gl ((xs (i + 1)).toBitVec.toNat % 4) (nI ((xs (i + 2)).toBitVec.toNat % 256))))), (g2, .inl (dZ, 1536, .inl gw))] H := hP
        have hD : va_D A [(a0, .inr (0, [.ref a1, .ref a2, .ref a3, .int (nI cn)])), (a1, .inl (dB, 4, .inl (upd fl ((xs (i + 1)).toBitVec.toNat % 4) (hq_by ((xs (i + 2)).toBitVec.toNat % 256))))), (a2, .inl (dL, 24, .inr (.inl fw))), (a3, .inl (dR, 4, .inl fr)), (g0, .inr (1, [.ref g1, .ref g2, .int (nI cn)])), (g1, .inl (dI, 4, .inl (upd gl ((xs (i + 1)).toBitVec.toNat % 4) (nI ((xs (i + 2)).toBitVec.toNat % 256))))), (g2, .inl (dZ, 1536, .inl gw))] := hD
        have hK : va_K D vwCl [(dB, .byte), (dL, .long), (dR, .byte), (dI, .int), (dZ, .boolean)] s := hK
        refine lv_goto (tgt := 196) hx hb dL_law_100 (by decide) ?_
        refine hq_inc (a := i) (d := 6) (lv' := [(3, .int (nI (i + 6))), (2, .ref g0), (1, .ref a0), (0, .ref b)]) hx hb dL_law_196 hl (k := 0) rfl (by decide) (by decide) rfl (fun ls hl => ?_)
        refine lv_goto (tgt := 18) hx hb dL_law_199 (by decide) ?_
        exact ih (t + 1) (by omega) (i + 6) (by omega) _ fw fr cn _ gw _ wl (hq_LI_letter hv _ _ (Nat.mod_lt _ (by decide))) _ _ _ hK hP hD hS hl
      · refine lv_tableIn (off := 70) (tgt := 103) hx hb dL_law_33 (by decide) (by decide) (by decide) (by decide) ?_
        refine lv_aload_n hx hb dL_law_103 rfl (lv_at hl 2 rfl) ?_
        refine hq_callVv (As := []) (rest := []) (wr := [(g0, .inr (1, [.ref g1, .ref g2, .int (nI cn)])), (g1, .inl (dI, 4, .inl gl)), (g2, .inl (dZ, 1536, .inl gw))]) (tr := [(dI, .int), (dZ, .boolean)]) (cells' := (7 + 4 * (t + 1))) (slots' := (1579 + 328 * (t + 1))) ⟨hx, hb, hml, hown, hts⟩ (metX0_write l D a0 a1 a2 a3 dB dL dR _ fl fw fr cn vl hv.2.1) 0 (ci := 0) rfl rfl q34 q35 q36 q2 q37 (by decide +kernel) rfl ⟨by decide, by decide⟩ ⟨by show (7 + 4 * t) + 1 ≤ 1200000; omega, by show (1579 + 328 * t) + 4 ≤ 5502250; omega⟩ ⟨by show (7 + 4 * t) + 1 ≤ _; omega, by show (1579 + 328 * t) + 4 ≤ _; omega⟩ hl rfl (Nat.le_of_ble_eq_true rfl) dL_law_104 hK hP hD hS hA [0, 1, 2, 3] [4, 5, 6] rfl rfl (by decide) (by decide) (by decide) [0, 1, 2] [3, 4] rfl rfl (fun f1 H locs hw hK hP hD hS => ?_)
        have hP : va_P D vwCl [(g0, .inr (1, [.ref g1, .ref g2, .int (nI cn)])), (g1, .inl (dI, 4, .inl gl)), (g2, .inl (dZ, 1536, .inl gw)), (a0, .inr (0, [.ref a1, .ref a2, .ref a3, .int (nI 0)])), (a1, .inl (dB, 4, .inl fl)), (a2, .inl (dL, 24, .inr (.inl f1))), (a3, .inl (dR, 4, .inl fr))] H := hP
        have hD : va_D A [(g0, .inr (1, [.ref g1, .ref g2, .int (nI cn)])), (g1, .inl (dI, 4, .inl gl)), (g2, .inl (dZ, 1536, .inl gw)), (a0, .inr (0, [.ref a1, .ref a2, .ref a3, .int (nI 0)])), (a1, .inl (dB, 4, .inl fl)), (a2, .inl (dL, 24, .inr (.inl f1))), (a3, .inl (dR, 4, .inl fr))] := hD
        have hK : va_K D vwCl [(dI, .int), (dZ, .boolean), (dB, .byte), (dL, .long), (dR, .byte)] s := hK
        have hw1 := hw
        refine lv_aload_n hx hb dL_law_107 rfl (lv_at hl 1 rfl) ?_
        refine hq_callVv (As := []) (rest := []) (wr := [(a0, .inr (0, [.ref a1, .ref a2, .ref a3, .int (nI 0)])), (a1, .inl (dB, 4, .inl fl)), (a2, .inl (dL, 24, .inr (.inl f1))), (a3, .inl (dR, 4, .inl fr))]) (tr := [(dB, .byte), (dL, .long), (dR, .byte)]) (cells' := (7 + 4 * (t + 1))) (slots' := (1579 + 328 * (t + 1))) ⟨hx, hb, hml, hown, hts⟩ (metX1_write l D g0 g1 g2 dI dZ _ gl gw cn vl hv.2.2.1) 0 (ci := 1) rfl rfl q114 q115 q116 q3 q117 (by decide +kernel) rfl ⟨by decide, by decide⟩ ⟨by show (7 + 4 * (t + 1)) + 0 ≤ 1200000; omega, by show (1579 + 328 * (t + 1)) + 0 ≤ 5502250; omega⟩ ⟨Nat.le_refl _, Nat.le_refl _⟩ hl rfl (Nat.le_of_ble_eq_true rfl) dL_law_108 hK hP hD hS hA [0, 1, 2] [3, 4, 5, 6] rfl rfl (by decide) (by decide) (by decide) [0, 1] [2, 3, 4] rfl rfl (fun g3 H locs hw hK hP hD hS => ?_)
        have hP : va_P D vwCl [(a0, .inr (0, [.ref a1, .ref a2, .ref a3, .int (nI 0)])), (a1, .inl (dB, 4, .inl fl)), (a2, .inl (dL, 24, .inr (.inl f1))), (a3, .inl (dR, 4, .inl fr)), (g0, .inr (1, [.ref g1, .ref g2, .int (nI 0)])), (g1, .inl (dI, 4, .inl gl)), (g2, .inl (dZ, 1536, .inl g3))] H := hP
        have hD : va_D A [(a0, .inr (0, [.ref a1, .ref a2, .ref a3, .int (nI 0)])), (a1, .inl (dB, 4, .inl fl)), (a2, .inl (dL, 24, .inr (.inl f1))), (a3, .inl (dR, 4, .inl fr)), (g0, .inr (1, [.ref g1, .ref g2, .int (nI 0)])), (g1, .inl (dI, 4, .inl gl)), (g2, .inl (dZ, 1536, .inl g3))] := hD
        have hK : va_K D vwCl [(dB, .byte), (dL, .long), (dR, .byte), (dI, .int), (dZ, .boolean)] s := hK
        refine lv_goto (tgt := 196) hx hb dL_law_111 (by decide) ?_
        refine hq_inc (a := i) (d := 6) (lv' := [(3, .int (nI (i + 6))), (2, .ref g0), (1, .ref a0), (0, .ref b)]) hx hb dL_law_196 hl (k := 0) rfl (by decide) (by decide) rfl (fun ls hl => ?_)
        refine lv_goto (tgt := 18) hx hb dL_law_199 (by decide) ?_
        exact ih (t + 1) (by omega) (i + 6) (by omega) fl f1 fr 0 gl g3 vl vl (hq_LI_write hv hw1 hw) _ _ _ hK hP hD hS hl
      · refine lv_tableIn (off := 81) (tgt := 114) hx hb dL_law_33 (by decide) (by decide) (by decide) (by decide) ?_
        refine lv_aload_n hx hb dL_law_114 rfl (lv_at hl 2 rfl) ?_
        refine lv_aload_n hx hb dL_law_115 rfl (lv_at hl 3 rfl) ?_
        refine lv_iload_n hx hb dL_law_116 rfl (lv_at hl 0 rfl) ?_
        refine lv_iconst (v := nI 1) hx hb dL_law_117 (by decide) ?_
        refine hq_add hx hb dL_law_118 ?_
        refine hq_rs hx hb hX hbl hbA hS (by omega) (by omega) dL_law_119 ?_
        refine hq_callVi (As := [.int (xs (i + 1))]) (rest := []) (wr := [(g0, .inr (1, [.ref g1, .ref g2, .int (nI cn)])), (g1, .inl (dI, 4, .inl gl)), (g2, .inl (dZ, 1536, .inl gw))]) (tr := [(dI, .int), (dZ, .boolean)]) (cells' := (7 + 4 * (t + 1))) (slots' := (1579 + 328 * (t + 1))) ⟨hx, hb, hml, hown, hts⟩ (metX0_harm l D a0 a1 a2 a3 dB dL dR _ fl fw fr cn (xs (i + 1)) hv.2.2.2.2.2) 1 (ci := 0) rfl rfl q54 q55 q56 q2 q57 (by decide +kernel) rfl ⟨by decide, by decide⟩ ⟨by show (7 + 4 * t) + 0 ≤ 1200000; omega, by show (1579 + 328 * t) + 0 ≤ 5502250; omega⟩ ⟨by show (7 + 4 * t) + 0 ≤ _; omega, by show (1579 + 328 * t) + 0 ≤ _; omega⟩ hl rfl (Nat.le_of_ble_eq_true rfl) dL_law_120 hK hP hD hS hA [0, 1, 2, 3] [4, 5, 6] rfl rfl (by decide) (by decide) (by decide) [0, 1, 2] [3, 4] rfl rfl (fun r1 u H locs hw hK hP hD hS => ?_)
        obtain ⟨f1, n1⟩ := u
        have hw1 := hw
        have hP : va_P D vwCl [(g0, .inr (1, [.ref g1, .ref g2, .int (nI cn)])), (g1, .inl (dI, 4, .inl gl)), (g2, .inl (dZ, 1536, .inl gw)), (a0, .inr (0, [.ref a1, .ref a2, .ref a3, .int (nI n1)])), (a1, .inl (dB, 4, .inl fl)), (a2, .inl (dL, 24, .inr (.inl f1))), (a3, .inl (dR, 4, .inl fr))] H := hP
        have hD : va_D A [(g0, .inr (1, [.ref g1, .ref g2, .int (nI cn)])), (g1, .inl (dI, 4, .inl gl)), (g2, .inl (dZ, 1536, .inl gw)), (a0, .inr (0, [.ref a1, .ref a2, .ref a3, .int (nI n1)])), (a1, .inl (dB, 4, .inl fl)), (a2, .inl (dL, 24, .inr (.inl f1))), (a3, .inl (dR, 4, .inl fr))] := hD
        have hK : va_K D vwCl [(dI, .int), (dZ, .boolean), (dB, .byte), (dL, .long), (dR, .byte)] s := hK
        refine lv_aload_n hx hb dL_law_123 rfl (lv_at hl 1 rfl) ?_
        refine lv_aload_n hx hb dL_law_124 rfl (lv_at hl 3 rfl) ?_
        refine lv_iload_n hx hb dL_law_125 rfl (lv_at hl 0 rfl) ?_
        refine lv_iconst (v := nI 1) hx hb dL_law_126 (by decide) ?_
        refine hq_add hx hb dL_law_127 ?_
        refine hq_rs hx hb hX hbl hbA hS (by omega) (by omega) dL_law_128 ?_
        refine hq_callVi (As := [.int (xs (i + 1))]) (rest := [.int r1]) (wr := [(a0, .inr (0, [.ref a1, .ref a2, .ref a3, .int (nI n1)])), (a1, .inl (dB, 4, .inl fl)), (a2, .inl (dL, 24, .inr (.inl f1))), (a3, .inl (dR, 4, .inl fr))]) (tr := [(dB, .byte), (dL, .long), (dR, .byte)]) (cells' := (7 + 4 * (t + 1))) (slots' := (1579 + 328 * (t + 1))) ⟨hx, hb, hml, hown, hts⟩ (metX1_harm l D g0 g1 g2 dI dZ _ gl gw cn (xs (i + 1)) (hq_bl fw) hv.2.2.2.2.2 hv.2.2.2.1) 1 (ci := 1) rfl rfl q121 q122 q123 q3 q124 (by decide +kernel) rfl ⟨by decide, by decide⟩ ⟨by show (7 + 4 * (t + 1)) + 0 ≤ 1200000; omega, by show (1579 + 328 * (t + 1)) + 0 ≤ 5502250; omega⟩ ⟨Nat.le_refl _, Nat.le_refl _⟩ hl rfl (Nat.le_of_ble_eq_true rfl) dL_law_129 hK hP hD hS hA [0, 1, 2] [3, 4, 5, 6] rfl rfl (by decide) (by decide) (by decide) [0, 1] [2, 3, 4] rfl rfl (fun r2 u H locs hw hK hP hD hS => ?_)
        obtain ⟨g3, n3⟩ := u
        have hP : va_P D vwCl [(a0, .inr (0, [.ref a1, .ref a2, .ref a3, .int (nI n1)])), (a1, .inl (dB, 4, .inl fl)), (a2, .inl (dL, 24, .inr (.inl f1))), (a3, .inl (dR, 4, .inl fr)), (g0, .inr (1, [.ref g1, .ref g2, .int (nI n3)])), (g1, .inl (dI, 4, .inl gl)), (g2, .inl (dZ, 1536, .inl g3))] H := hP
        have hD : va_D A [(a0, .inr (0, [.ref a1, .ref a2, .ref a3, .int (nI n1)])), (a1, .inl (dB, 4, .inl fl)), (a2, .inl (dL, 24, .inr (.inl f1))), (a3, .inl (dR, 4, .inl fr)), (g0, .inr (1, [.ref g1, .ref g2, .int (nI n3)])), (g1, .inl (dI, 4, .inl gl)), (g2, .inl (dZ, 1536, .inl g3))] := hD
        have hK : va_K D vwCl [(dB, .byte), (dL, .long), (dR, .byte), (dI, .int), (dZ, .boolean)] s := hK
        by_cases hlt : cn < 40
        · rw [if_pos hlt] at hw hw1
          obtain ⟨hr1, hn1, hb1⟩ := hw1
          obtain ⟨hr2, hn2, hb2⟩ := hw
          have hn1 : n1 = (cn + 1) := hn1
          have hn2 : n3 = (cn + 1) := hn2
          rw [hn1, hn2] at hP hD
          refine lv_icmp_eq (tgt := 196) hx hb dL_law_132 (by decide) (fun _ => ?_) (fun hz => absurd (by rw [hr1, hr2]) hz)
          refine hq_inc (a := i) (d := 6) (lv' := [(3, .int (nI (i + 6))), (2, .ref g0), (1, .ref a0), (0, .ref b)]) hx hb dL_law_196 hl (k := 0) rfl (by decide) (by decide) rfl (fun ls hl => ?_)
          refine lv_goto (tgt := 18) hx hb dL_law_199 (by decide) ?_
          exact ih (t + 1) (by omega) (i + 6) (by omega) fl f1 fr (cn + 1) gl g3 vl wl (hq_LI_harm hv hlt hb1 hb2) _ _ _ hK hP hD hS hl
        · rw [if_neg hlt] at hw hw1
          obtain ⟨hr1, hn1, hb1⟩ := hw1
          obtain ⟨hr2, hn2, hb2⟩ := hw
          have hn1 : n1 = cn := hn1
          have hn2 : n3 = cn := hn2
          have hb1 : f1 = fw := hb1
          have hb2 : g3 = gw := hb2
          rw [hn1, hn2, hb1, hb2] at hP hD
          refine lv_icmp_eq (tgt := 196) hx hb dL_law_132 (by decide) (fun _ => ?_) (fun hz => absurd (by rw [hr1, hr2]) hz)
          refine hq_inc (a := i) (d := 6) (lv' := [(3, .int (nI (i + 6))), (2, .ref g0), (1, .ref a0), (0, .ref b)]) hx hb dL_law_196 hl (k := 0) rfl (by decide) (by decide) rfl (fun ls hl => ?_)
          refine lv_goto (tgt := 18) hx hb dL_law_199 (by decide) ?_
          exact ih (t + 1) (by omega) (i + 6) (by omega) fl fw fr cn gl gw vl wl hv _ _ _ hK hP hD hS hl
      · refine lv_tableIn (off := 104) (tgt := 137) hx hb dL_law_33 (by decide) (by decide) (by decide) (by decide) ?_
        refine lv_aload_n hx hb dL_law_137 rfl (lv_at hl 2 rfl) ?_
        refine lv_aload_n hx hb dL_law_138 rfl (lv_at hl 3 rfl) ?_
        refine lv_iload_n hx hb dL_law_139 rfl (lv_at hl 0 rfl) ?_
        refine lv_iconst (v := nI 1) hx hb dL_law_140 (by decide) ?_
        refine hq_add hx hb dL_law_141 ?_
        refine hq_rs hx hb hX hbl hbA hS (by omega) (by omega) dL_law_142 ?_
        refine hq_callVi (As := [.int (xs (i + 1))]) (rest := []) (wr := [(g0, .inr (1, [.ref g1, .ref g2, .int (nI cn)])), (g1, .inl (dI, 4, .inl gl)), (g2, .inl (dZ, 1536, .inl gw))]) (tr := [(dI, .int), (dZ, .boolean)]) (cells' := (7 + 4 * (t + 1))) (slots' := (1579 + 328 * (t + 1))) ⟨hx, hb, hml, hown, hts⟩ (metX0_bit l D a0 a1 a2 a3 dB dL dR _ fl fw fr cn (xs (i + 1))) 1 (ci := 0) rfl rfl q59 q60 q61 q2 q62 (by decide +kernel) rfl ⟨by decide, by decide⟩ ⟨by show (7 + 4 * t) + 0 ≤ 1200000; omega, by show (1579 + 328 * t) + 0 ≤ 5502250; omega⟩ ⟨by show (7 + 4 * t) + 0 ≤ _; omega, by show (1579 + 328 * t) + 0 ≤ _; omega⟩ hl rfl (Nat.le_of_ble_eq_true rfl) dL_law_143 hK hP hD hS hA [0, 1, 2, 3] [4, 5, 6] rfl rfl (by decide) (by decide) (by decide) [0, 1, 2] [3, 4] rfl rfl (fun r1 _ H locs hw hK hP hD hS => ?_)
        have hw1 := hw
        have hP : va_P D vwCl [(g0, .inr (1, [.ref g1, .ref g2, .int (nI cn)])), (g1, .inl (dI, 4, .inl gl)), (g2, .inl (dZ, 1536, .inl gw)), (a0, .inr (0, [.ref a1, .ref a2, .ref a3, .int (nI cn)])), (a1, .inl (dB, 4, .inl fl)), (a2, .inl (dL, 24, .inr (.inl fw))), (a3, .inl (dR, 4, .inl fr))] H := hP
        have hD : va_D A [(g0, .inr (1, [.ref g1, .ref g2, .int (nI cn)])), (g1, .inl (dI, 4, .inl gl)), (g2, .inl (dZ, 1536, .inl gw)), (a0, .inr (0, [.ref a1, .ref a2, .ref a3, .int (nI cn)])), (a1, .inl (dB, 4, .inl fl)), (a2, .inl (dL, 24, .inr (.inl fw))), (a3, .inl (dR, 4, .inl fr))] := hD
        have hK : va_K D vwCl [(dI, .int), (dZ, .boolean), (dB, .byte), (dL, .long), (dR, .byte)] s := hK
        refine lv_aload_n hx hb dL_law_146 rfl (lv_at hl 1 rfl) ?_
        refine lv_aload_n hx hb dL_law_147 rfl (lv_at hl 3 rfl) ?_
        refine lv_iload_n hx hb dL_law_148 rfl (lv_at hl 0 rfl) ?_
        refine lv_iconst (v := nI 1) hx hb dL_law_149 (by decide) ?_
        refine hq_add hx hb dL_law_150 ?_
        refine hq_rs hx hb hX hbl hbA hS (by omega) (by omega) dL_law_151 ?_
        refine hq_callVi (As := [.int (xs (i + 1))]) (rest := [.int r1]) (wr := [(a0, .inr (0, [.ref a1, .ref a2, .ref a3, .int (nI cn)])), (a1, .inl (dB, 4, .inl fl)), (a2, .inl (dL, 24, .inr (.inl fw))), (a3, .inl (dR, 4, .inl fr))]) (tr := [(dB, .byte), (dL, .long), (dR, .byte)]) (cells' := (7 + 4 * (t + 1))) (slots' := (1579 + 328 * (t + 1))) ⟨hx, hb, hml, hown, hts⟩ (metX1_bit l D g0 g1 g2 dI dZ _ gl gw cn (xs (i + 1)) (hq_bl fw) hv.2.2.2.1) 1 (ci := 1) rfl rfl q129 q130 q131 q3 q132 (by decide +kernel) rfl ⟨by decide, by decide⟩ ⟨by show (7 + 4 * (t + 1)) + 0 ≤ 1200000; omega, by show (1579 + 328 * (t + 1)) + 0 ≤ 5502250; omega⟩ ⟨Nat.le_refl _, Nat.le_refl _⟩ hl rfl (Nat.le_of_ble_eq_true rfl) dL_law_152 hK hP hD hS hA [0, 1, 2] [3, 4, 5, 6] rfl rfl (by decide) (by decide) (by decide) [0, 1] [2, 3, 4] rfl rfl (fun r2 _ H locs hw hK hP hD hS => ?_)
        have hP : va_P D vwCl [(a0, .inr (0, [.ref a1, .ref a2, .ref a3, .int (nI cn)])), (a1, .inl (dB, 4, .inl fl)), (a2, .inl (dL, 24, .inr (.inl fw))), (a3, .inl (dR, 4, .inl fr)), (g0, .inr (1, [.ref g1, .ref g2, .int (nI cn)])), (g1, .inl (dI, 4, .inl gl)), (g2, .inl (dZ, 1536, .inl gw))] H := hP
        have hD : va_D A [(a0, .inr (0, [.ref a1, .ref a2, .ref a3, .int (nI cn)])), (a1, .inl (dB, 4, .inl fl)), (a2, .inl (dL, 24, .inr (.inl fw))), (a3, .inl (dR, 4, .inl fr)), (g0, .inr (1, [.ref g1, .ref g2, .int (nI cn)])), (g1, .inl (dI, 4, .inl gl)), (g2, .inl (dZ, 1536, .inl gw))] := hD
        have hK : va_K D vwCl [(dB, .byte), (dL, .long), (dR, .byte), (dI, .int), (dZ, .boolean)] s := hK
        refine lv_icmp_eq (tgt := 196) hx hb dL_law_155 (by decide) (fun _ => ?_) (fun hz => absurd (by rw [hw1, hw]) hz)
        refine hq_inc (a := i) (d := 6) (lv' := [(3, .int (nI (i + 6))), (2, .ref g0), (1, .ref a0), (0, .ref b)]) hx hb dL_law_196 hl (k := 0) rfl (by decide) (by decide) rfl (fun ls hl => ?_)
        refine lv_goto (tgt := 18) hx hb dL_law_199 (by decide) ?_
        exact ih (t + 1) (by omega) (i + 6) (by omega) fl fw fr cn gl gw vl wl hv _ _ _ hK hP hD hS hl
      · refine lv_tableIn (off := 127) (tgt := 160) hx hb dL_law_33 (by decide) (by decide) (by decide) (by decide) ?_
        have hn40 : hq_near (hq_bl fw) wl 40 := hq_near_le hv.2.2.2.2.1 hv.2.2.2.2.2
        refine lv_aload_n hx hb dL_law_160 rfl (lv_at hl 2 rfl) ?_
        refine hq_callVi (As := []) (rest := []) (wr := [(g0, .inr (1, [.ref g1, .ref g2, .int (nI cn)])), (g1, .inl (dI, 4, .inl gl)), (g2, .inl (dZ, 1536, .inl gw))]) (tr := [(dI, .int), (dZ, .boolean)]) (cells' := (7 + 4 * (t + 1))) (slots' := (1579 + 328 * (t + 1))) ⟨hx, hb, hml, hown, hts⟩ (metX0_read l D a0 a1 a2 a3 dB dL dR _ fl fw fr cn wl hn40) 0 (ci := 0) rfl rfl q63 q64 q65 q2 q66 (by decide +kernel) rfl ⟨by decide, by decide⟩ ⟨by show (7 + 4 * t) + 4 ≤ 1200000; omega, by show (1579 + 328 * t) + 328 ≤ 5502250; omega⟩ ⟨by show (7 + 4 * t) + 4 ≤ _; omega, by show (1579 + 328 * t) + 328 ≤ _; omega⟩ hl rfl (Nat.le_of_ble_eq_true rfl) dL_law_161 hK hP hD hS hA [0, 1, 2, 3] [4, 5, 6] rfl rfl (by decide) (by decide) (by decide) [0, 1, 2] [3, 4] rfl rfl (fun r1 f3 H locs hw hK hP hD hS => ?_)
        have hw1 := hw
        have hP : va_P D vwCl [(g0, .inr (1, [.ref g1, .ref g2, .int (nI cn)])), (g1, .inl (dI, 4, .inl gl)), (g2, .inl (dZ, 1536, .inl gw)), (a0, .inr (0, [.ref a1, .ref a2, .ref a3, .int (nI cn)])), (a1, .inl (dB, 4, .inl fl)), (a2, .inl (dL, 24, .inr (.inl fw))), (a3, .inl (dR, 4, .inl f3))] H := hP
        have hD : va_D A [(g0, .inr (1, [.ref g1, .ref g2, .int (nI cn)])), (g1, .inl (dI, 4, .inl gl)), (g2, .inl (dZ, 1536, .inl gw)), (a0, .inr (0, [.ref a1, .ref a2, .ref a3, .int (nI cn)])), (a1, .inl (dB, 4, .inl fl)), (a2, .inl (dL, 24, .inr (.inl fw))), (a3, .inl (dR, 4, .inl f3))] := hD
        have hK : va_K D vwCl [(dI, .int), (dZ, .boolean), (dB, .byte), (dL, .long), (dR, .byte)] s := hK
        refine lv_aload_n hx hb dL_law_164 rfl (lv_at hl 1 rfl) ?_
        refine hq_callVi (As := []) (rest := [.int r1]) (wr := [(a0, .inr (0, [.ref a1, .ref a2, .ref a3, .int (nI cn)])), (a1, .inl (dB, 4, .inl fl)), (a2, .inl (dL, 24, .inr (.inl fw))), (a3, .inl (dR, 4, .inl f3))]) (tr := [(dB, .byte), (dL, .long), (dR, .byte)]) (cells' := (7 + 4 * (t + 1))) (slots' := (1579 + 328 * (t + 1))) ⟨hx, hb, hml, hown, hts⟩ (metX1_read l D g0 g1 g2 dI dZ _ gl gw cn (hq_bl fw) wl hv.2.2.2.1 hn40) 0 (ci := 1) rfl rfl q133 q134 q135 q3 q136 (by decide +kernel) rfl ⟨by decide, by decide⟩ ⟨by show (7 + 4 * (t + 1)) + 0 ≤ 1200000; omega, by show (1579 + 328 * (t + 1)) + 0 ≤ 5502250; omega⟩ ⟨Nat.le_refl _, Nat.le_refl _⟩ hl rfl (Nat.le_of_ble_eq_true rfl) dL_law_165 hK hP hD hS hA [0, 1, 2] [3, 4, 5, 6] rfl rfl (by decide) (by decide) (by decide) [0, 1] [2, 3, 4] rfl rfl (fun r2 _ H locs hw hK hP hD hS => ?_)
        have hP : va_P D vwCl [(a0, .inr (0, [.ref a1, .ref a2, .ref a3, .int (nI cn)])), (a1, .inl (dB, 4, .inl fl)), (a2, .inl (dL, 24, .inr (.inl fw))), (a3, .inl (dR, 4, .inl f3)), (g0, .inr (1, [.ref g1, .ref g2, .int (nI cn)])), (g1, .inl (dI, 4, .inl gl)), (g2, .inl (dZ, 1536, .inl gw))] H := hP
        have hD : va_D A [(a0, .inr (0, [.ref a1, .ref a2, .ref a3, .int (nI cn)])), (a1, .inl (dB, 4, .inl fl)), (a2, .inl (dL, 24, .inr (.inl fw))), (a3, .inl (dR, 4, .inl f3)), (g0, .inr (1, [.ref g1, .ref g2, .int (nI cn)])), (g1, .inl (dI, 4, .inl gl)), (g2, .inl (dZ, 1536, .inl gw))] := hD
        have hK : va_K D vwCl [(dB, .byte), (dL, .long), (dR, .byte), (dI, .int), (dZ, .boolean)] s := hK
        refine lv_icmp_eq (tgt := 196) hx hb dL_law_168 (by decide) (fun _ => ?_) (fun hz => absurd (by rw [hw1, hw]) hz)
        refine hq_inc (a := i) (d := 6) (lv' := [(3, .int (nI (i + 6))), (2, .ref g0), (1, .ref a0), (0, .ref b)]) hx hb dL_law_196 hl (k := 0) rfl (by decide) (by decide) rfl (fun ls hl => ?_)
        refine lv_goto (tgt := 18) hx hb dL_law_199 (by decide) ?_
        exact ih (t + 1) (by omega) (i + 6) (by omega) fl fw f3 cn gl gw vl wl hv _ _ _ hK hP hD hS hl
      · refine lv_tableIn (off := 140) (tgt := 173) hx hb dL_law_33 (by decide) (by decide) (by decide) (by decide) ?_
        refine lv_aload_n hx hb dL_law_173 rfl (lv_at hl 2 rfl) ?_
        refine lv_aload_n hx hb dL_law_174 rfl (lv_at hl 3 rfl) ?_
        refine lv_iload_n hx hb dL_law_175 rfl (lv_at hl 0 rfl) ?_
        refine lv_iconst (v := nI 1) hx hb dL_law_176 (by decide) ?_
        refine hq_add hx hb dL_law_177 ?_
        refine hq_rs hx hb hX hbl hbA hS (by omega) (by omega) dL_law_178 ?_
        refine hq_callVi (As := [.int (xs (i + 1))]) (rest := []) (wr := [(g0, .inr (1, [.ref g1, .ref g2, .int (nI cn)])), (g1, .inl (dI, 4, .inl gl)), (g2, .inl (dZ, 1536, .inl gw))]) (tr := [(dI, .int), (dZ, .boolean)]) (cells' := (7 + 4 * (t + 1))) (slots' := (1579 + 328 * (t + 1))) ⟨hx, hb, hml, hown, hts⟩ (metX0_letter_2 l D a0 a1 a2 a3 dB dL dR _ fl fw fr cn (xs (i + 1))) 1 (ci := 0) rfl rfl q85 q86 q87 q2 q88 (by decide +kernel) rfl ⟨by decide, by decide⟩ ⟨by show (7 + 4 * t) + 0 ≤ 1200000; omega, by show (1579 + 328 * t) + 0 ≤ 5502250; omega⟩ ⟨by show (7 + 4 * t) + 0 ≤ _; omega, by show (1579 + 328 * t) + 0 ≤ _; omega⟩ hl rfl (Nat.le_of_ble_eq_true rfl) dL_law_179 hK hP hD hS hA [0, 1, 2, 3] [4, 5, 6] rfl rfl (by decide) (by decide) (by decide) [0, 1, 2] [3, 4] rfl rfl (fun r1 _ H locs hw hK hP hD hS => ?_)
        have hw1 := hw
        have hP : va_P D vwCl [(g0, .inr (1, [.ref g1, .ref g2, .int (nI cn)])), (g1, .inl (dI, 4, .inl gl)), (g2, .inl (dZ, 1536, .inl gw)), (a0, .inr (0, [.ref a1, .ref a2, .ref a3, .int (nI cn)])), (a1, .inl (dB, 4, .inl fl)), (a2, .inl (dL, 24, .inr (.inl fw))), (a3, .inl (dR, 4, .inl fr))] H := hP
        have hD : va_D A [(g0, .inr (1, [.ref g1, .ref g2, .int (nI cn)])), (g1, .inl (dI, 4, .inl gl)), (g2, .inl (dZ, 1536, .inl gw)), (a0, .inr (0, [.ref a1, .ref a2, .ref a3, .int (nI cn)])), (a1, .inl (dB, 4, .inl fl)), (a2, .inl (dL, 24, .inr (.inl fw))), (a3, .inl (dR, 4, .inl fr))] := hD
        have hK : va_K D vwCl [(dI, .int), (dZ, .boolean), (dB, .byte), (dL, .long), (dR, .byte)] s := hK
        refine lv_aload_n hx hb dL_law_182 rfl (lv_at hl 1 rfl) ?_
        refine lv_aload_n hx hb dL_law_183 rfl (lv_at hl 3 rfl) ?_
        refine lv_iload_n hx hb dL_law_184 rfl (lv_at hl 0 rfl) ?_
        refine lv_iconst (v := nI 1) hx hb dL_law_185 (by decide) ?_
        refine hq_add hx hb dL_law_186 ?_
        refine hq_rs hx hb hX hbl hbA hS (by omega) (by omega) dL_law_187 ?_
        refine hq_callVi (As := [.int (xs (i + 1))]) (rest := [.int r1]) (wr := [(a0, .inr (0, [.ref a1, .ref a2, .ref a3, .int (nI cn)])), (a1, .inl (dB, 4, .inl fl)), (a2, .inl (dL, 24, .inr (.inl fw))), (a3, .inl (dR, 4, .inl fr))]) (tr := [(dB, .byte), (dL, .long), (dR, .byte)]) (cells' := (7 + 4 * (t + 1))) (slots' := (1579 + 328 * (t + 1))) ⟨hx, hb, hml, hown, hts⟩ (metX1_letter_2 l D g0 g1 g2 dI dZ _ gl gw cn (xs (i + 1))) 1 (ci := 1) rfl rfl q110 q111 q112 q3 q113 (by decide +kernel) rfl ⟨by decide, by decide⟩ ⟨by show (7 + 4 * (t + 1)) + 0 ≤ 1200000; omega, by show (1579 + 328 * (t + 1)) + 0 ≤ 5502250; omega⟩ ⟨Nat.le_refl _, Nat.le_refl _⟩ hl rfl (Nat.le_of_ble_eq_true rfl) dL_law_188 hK hP hD hS hA [0, 1, 2] [3, 4, 5, 6] rfl rfl (by decide) (by decide) (by decide) [0, 1] [2, 3, 4] rfl rfl (fun r2 _ H locs hw hK hP hD hS => ?_)
        have hP : va_P D vwCl [(a0, .inr (0, [.ref a1, .ref a2, .ref a3, .int (nI cn)])), (a1, .inl (dB, 4, .inl fl)), (a2, .inl (dL, 24, .inr (.inl fw))), (a3, .inl (dR, 4, .inl fr)), (g0, .inr (1, [.ref g1, .ref g2, .int (nI cn)])), (g1, .inl (dI, 4, .inl gl)), (g2, .inl (dZ, 1536, .inl gw))] H := hP
        have hD : va_D A [(a0, .inr (0, [.ref a1, .ref a2, .ref a3, .int (nI cn)])), (a1, .inl (dB, 4, .inl fl)), (a2, .inl (dL, 24, .inr (.inl fw))), (a3, .inl (dR, 4, .inl fr)), (g0, .inr (1, [.ref g1, .ref g2, .int (nI cn)])), (g1, .inl (dI, 4, .inl gl)), (g2, .inl (dZ, 1536, .inl gw))] := hD
        have hK : va_K D vwCl [(dB, .byte), (dL, .long), (dR, .byte), (dI, .int), (dZ, .boolean)] s := hK
        have h4 : (xs (i + 1)).toBitVec.toNat % 4 < 4 := Nat.mod_lt _ (by decide)
        refine lv_icmp_eq (tgt := 196) hx hb dL_law_191 (by decide) (fun _ => ?_) (fun hz => absurd (by rw [hw1, hw, hv.2.1 _ h4, hv.2.2.1 _ h4]; exact hq_by_and (hv.1 _ h4)) hz)
        refine hq_inc (a := i) (d := 6) (lv' := [(3, .int (nI (i + 6))), (2, .ref g0), (1, .ref a0), (0, .ref b)]) hx hb dL_law_196 hl (k := 0) rfl (by decide) (by decide) rfl (fun ls hl => ?_)
        refine lv_goto (tgt := 18) hx hb dL_law_199 (by decide) ?_
        exact ih (t + 1) (by omega) (i + 6) (by omega) fl fw fr cn gl gw vl wl hv _ _ _ hK hP hD hS hl
      · refine lv_tableOut (tgt := 196) hx hb dL_law_33 (by decide) (by decide) ?_
        refine W.widen (k := (7 + 4 * (t + 1))) (n := (1579 + 328 * (t + 1))) (by omega) (by omega) ?_
        refine hq_inc (a := i) (d := 6) (lv' := [(3, .int (nI (i + 6))), (2, .ref g0), (1, .ref a0), (0, .ref b)]) hx hb dL_law_196 hl (k := 0) rfl (by decide) (by decide) rfl (fun ls hl => ?_)
        refine lv_goto (tgt := 18) hx hb dL_law_199 (by decide) ?_
        exact ih (t + 1) (by omega) (i + 6) (by omega) fl fw fr cn gl gw vl wl hv _ _ _ hK hP hD hS hl
      · refine lv_tableOut (tgt := 196) hx hb dL_law_33 (by decide) (by decide) ?_
        refine W.widen (k := (7 + 4 * (t + 1))) (n := (1579 + 328 * (t + 1))) (by omega) (by omega) ?_
        refine hq_inc (a := i) (d := 6) (lv' := [(3, .int (nI (i + 6))), (2, .ref g0), (1, .ref a0), (0, .ref b)]) hx hb dL_law_196 hl (k := 0) rfl (by decide) (by decide) rfl (fun ls hl => ?_)
        refine lv_goto (tgt := 18) hx hb dL_law_199 (by decide) ?_
        exact ih (t + 1) (by omega) (i + 6) (by omega) fl fw fr cn gl gw vl wl hv _ _ _ hK hP hD hS hl
set_option maxHeartbeats 4000000 in
set_option maxRecDepth 100000 in
/-- the law, from its entry -/
theorem whole_start {p : Program} {e : Env} {s : State} {m : MethodId} {below : List Frame} {meth : Method} {c : Code} (l : Launch) (hflags : l.flags = flags0) {b L : Nat} {xs : Nat → Int32} (hL : L ≤ 288) (C0 : lw_At p s m meth c b L xs) : W p l e room_1 s m #[Value.ref b] below meth c s.heap [] 0 0 (lw_Z below #[Value.ref b] s) (entryFrame m ([Value.ref b] : List Value).toArray 4) := by
  obtain ⟨hx, hb, hr, hml, hown, hts0, hX, hbl, hlocks, hgv⟩ := id C0
  have hts : ∀ w ∈ lw_all, w.before #[Value.ref b] s = true := fun w h => hts0 w (lw_all_tbl h)
  obtain ⟨c0_, iS0, hKn0⟩ := u_known (C := RX0) (T := TX0) (N := 4) (n := 4) hts0 (fun w h => lw_all_tbl (in_X0 w h)) (hts0 _ (lw_all_tbl q8))
  obtain ⟨c1_, iS1, hKn1⟩ := u_known (C := RX1) (T := TX1) (N := 3) (n := 3) hts0 (fun w h => lw_all_tbl (in_X1 w h)) (hts0 _ (lw_all_tbl q90))
  obtain ⟨D, hKc⟩ : ∃ D : va_G, ∀ (k : Nat) (q : vw_C), vwCl[k]? = some q → u_Kn s q.1 q.2.1 q.2.2 (D.1 k) (D.2 k) := by
    refine ⟨(fun k => if k = 0 then c0_ else c1_, fun k => if k = 0 then iS0 else iS1), ?_⟩
    intro k q hq
    match k, hq with
    | 0, hq => cases hq; exact hKn0
    | 1, hq => cases hq; exact hKn1
    | k + 2, hq => simp [vwCl] at hq
  obtain ⟨A, hA, hA2⟩ : ∃ A : Nat → Prop, (∀ q : Nat, s.heap.size ≤ q → A q) ∧ (∀ q : Nat, A q → s.heap.size ≤ q) := ⟨fun q => s.heap.size ≤ q, fun _ h => h, fun _ h => h⟩
  have hS : va_S A s.heap s.heap [] := va_S.rf
  have hK : va_K D vwCl [] s := ⟨hKc, fun k q h => by simp at h⟩
  have hP : va_P D vwCl [] s.heap := fun k q h => by simp at h
  have hD : va_D A [] := ⟨fun i j p q h => by simp at h, fun k q h => by simp at h⟩
  have hl := lv_entry ([.ref b]) (n := 4) (Nat.le_of_ble_eq_true rfl)
  rw [lg_entry_eq]
  generalize (lg_sl ([.ref b]) ++ List.replicate (4 - (lg_sl ([.ref b])).length) Slot.unset).toArray = ls at hl ⊢
  have hl : lv_has ls 4 [(0, .ref b)] := hl
  refine va_new (ci := 0) (fs := [.null, .null, .null, .int 0]) (C := RX0) (T := TX0) (N := 4) hx hb hts in_X0 tyX0 tyX0_ok hown (hts _ q7) (hts _ q8) (hts _ q2) hK hP hD hS hA rfl (fun j hj => by rcases (show j = 0 ∨ j = 1 ∨ j = 2 ∨ j = 3 by omega) with rfl | rfl | rfl | rfl <;> rfl) (by decide) (by decide) dL_law_0 (fun a0 H hP hD hS => ?_)
  have hP : va_P D vwCl [(a0, .inr (0, [.null, .null, .null, .int 0]))] H := hP
  have hD : va_D A [(a0, .inr (0, [.null, .null, .null, .int 0]))] := hD
  refine W.widen (k := 1) (n := 4) (by decide) (by decide) ?_
  refine lv_dup hx hb dL_law_3 rfl ?_
  refine hq_callI (As := []) (rest := [.ref a0]) (wr := []) (tr := []) (cells' := 4) (slots' := 36) ⟨hx, hb, hml, hown, hts⟩ (metX0_init l D a0 _) 0 q9 q10 q2 q11 rfl (by decide +kernel) rfl ⟨by decide, by decide⟩ ⟨by decide, by decide⟩ ⟨Nat.le_refl _, Nat.le_refl _⟩ hl rfl (Nat.le_of_ble_eq_true rfl) dL_law_4 hK hP hD hS hA [0] [] rfl rfl (by decide) (by decide) (by decide) [] [] rfl rfl (fun u H locs hw hK hP hD hS => ?_)
  obtain ⟨⟨a1, a2, a3⟩, ⟨dB, dL, dR⟩⟩ := u
  have hP : va_P D vwCl [(a0, .inr (0, [.ref a1, .ref a2, .ref a3, .int 0])), (a1, .inl (dB, 4, .inl (fun _ => 0))), (a2, .inl (dL, 24, .inr (.inl (fun _ => 0)))), (a3, .inl (dR, 4, .inl (fun _ => 0)))] H := hP
  have hD : va_D A [(a0, .inr (0, [.ref a1, .ref a2, .ref a3, .int 0])), (a1, .inl (dB, 4, .inl (fun _ => 0))), (a2, .inl (dL, 24, .inr (.inl (fun _ => 0)))), (a3, .inl (dR, 4, .inl (fun _ => 0)))] := hD
  have hK : va_K D vwCl [(dB, .byte), (dL, .long), (dR, .byte)] s := hK
  refine lv_astore_n (lv' := [(1, .ref a0), (0, .ref b)]) hx hb dL_law_7 rfl hl (by decide) rfl (fun ls hl => ?_)
  refine va_new (ci := 1) (fs := [.null, .null, .int 0]) (C := RX1) (T := TX1) (N := 3) hx hb hts in_X1 tyX1 tyX1_ok hown (hts _ q89) (hts _ q90) (hts _ q3) hK hP hD hS hA rfl (fun j hj => by rcases (show j = 0 ∨ j = 1 ∨ j = 2 by omega) with rfl | rfl | rfl <;> rfl) (by decide) (by decide) dL_law_8 (fun g0 H hP hD hS => ?_)
  have hP : va_P D vwCl [(a0, .inr (0, [.ref a1, .ref a2, .ref a3, .int 0])), (a1, .inl (dB, 4, .inl (fun _ => 0))), (a2, .inl (dL, 24, .inr (.inl (fun _ => 0)))), (a3, .inl (dR, 4, .inl (fun _ => 0))), (g0, .inr (1, [.null, .null, .int 0]))] H := hP
  have hD : va_D A [(a0, .inr (0, [.ref a1, .ref a2, .ref a3, .int 0])), (a1, .inl (dB, 4, .inl (fun _ => 0))), (a2, .inl (dL, 24, .inr (.inl (fun _ => 0)))), (a3, .inl (dR, 4, .inl (fun _ => 0))), (g0, .inr (1, [.null, .null, .int 0]))] := hD
  refine W.widen (k := 5) (n := 39) (by decide) (by decide) ?_
  refine lv_dup hx hb dL_law_11 rfl ?_
  refine hq_callI (As := []) (rest := [.ref g0]) (wr := [(a0, .inr (0, [.ref a1, .ref a2, .ref a3, .int 0])), (a1, .inl (dB, 4, .inl (fun _ => 0))), (a2, .inl (dL, 24, .inr (.inl (fun _ => 0)))), (a3, .inl (dR, 4, .inl (fun _ => 0)))]) (tr := [(dB, .byte), (dL, .long), (dR, .byte)]) (cells' := 7) (slots' := 1579) ⟨hx, hb, hml, hown, hts⟩ (metX1_init l D g0 _) 0 q91 q92 q3 q93 rfl (by decide +kernel) rfl ⟨by decide, by decide⟩ ⟨by decide, by decide⟩ ⟨Nat.le_refl _, Nat.le_refl _⟩ hl rfl (Nat.le_of_ble_eq_true rfl) dL_law_12 hK hP hD hS hA [4] [0, 1, 2, 3] rfl rfl (by decide) (by decide) (by decide) [] [0, 1, 2] rfl rfl (fun u H locs hw hK hP hD hS => ?_)
  obtain ⟨⟨g1, g2⟩, ⟨dI, dZ⟩⟩ := u
  have hP : va_P D vwCl [(a0, .inr (0, [.ref a1, .ref a2, .ref a3, .int 0])), (a1, .inl (dB, 4, .inl (fun _ => 0))), (a2, .inl (dL, 24, .inr (.inl (fun _ => 0)))), (a3, .inl (dR, 4, .inl (fun _ => 0))), (g0, .inr (1, [.ref g1, .ref g2, .int 0])), (g1, .inl (dI, 4, .inl (fun _ => 0))), (g2, .inl (dZ, 1536, .inl (fun _ => 0)))] H := hP
  have hD : va_D A [(a0, .inr (0, [.ref a1, .ref a2, .ref a3, .int 0])), (a1, .inl (dB, 4, .inl (fun _ => 0))), (a2, .inl (dL, 24, .inr (.inl (fun _ => 0)))), (a3, .inl (dR, 4, .inl (fun _ => 0))), (g0, .inr (1, [.ref g1, .ref g2, .int 0])), (g1, .inl (dI, 4, .inl (fun _ => 0))), (g2, .inl (dZ, 1536, .inl (fun _ => 0)))] := hD
  have hK : va_K D vwCl [(dB, .byte), (dL, .long), (dR, .byte), (dI, .int), (dZ, .boolean)] s := hK
  refine lv_astore_n (lv' := [(2, .ref g0), (1, .ref a0), (0, .ref b)]) hx hb dL_law_15 rfl hl (by decide) rfl (fun ls hl => ?_)
  refine lv_iconst (v := nI 0) hx hb dL_law_16 (by decide) ?_
  refine lv_istore_n (lv' := [(3, .int (nI 0)), (2, .ref g0), (1, .ref a0), (0, .ref b)]) hx hb dL_law_17 rfl hl (by decide) rfl (fun ls hl => ?_)
  have hP : va_P D vwCl [(a0, .inr (0, [.ref a1, .ref a2, .ref a3, .int (nI 0)])), (a1, .inl (dB, 4, .inl (fun _ => 0))), (a2, .inl (dL, 24, .inr (.inl (fun _ => 0)))), (a3, .inl (dR, 4, .inl (fun _ => 0))), (g0, .inr (1, [.ref g1, .ref g2, .int (nI 0)])), (g1, .inl (dI, 4, .inl (fun _ => 0))), (g2, .inl (dZ, 1536, .inl (fun _ => 0)))] H := hP
  have hD : va_D A [(a0, .inr (0, [.ref a1, .ref a2, .ref a3, .int (nI 0)])), (a1, .inl (dB, 4, .inl (fun _ => 0))), (a2, .inl (dL, 24, .inr (.inl (fun _ => 0)))), (a3, .inl (dR, 4, .inl (fun _ => 0))), (g0, .inr (1, [.ref g1, .ref g2, .int (nI 0)])), (g1, .inl (dI, 4, .inl (fun _ => 0))), (g2, .inl (dZ, 1536, .inl (fun _ => 0)))] := hD
  exact hq_law hL C0 hA hA2 49 0 rfl 0 rfl _ _ _ 0 _ _ _ _ hq_LI_0 _ _ _ hK hP hD hS hl
set_option maxHeartbeats 4000000 in
theorem lw_walk (l : Launch) (hflags : l.flags = flags0) (b : Addr) (xs : List Int32) : MetFree l x (headSpec (Jvm.Cond.code x code maxLocals ret :: tables_1) room_1) (lw_P b xs) (fun _ _ _ _ _ => True) lw_Q := by
  refine MetFree.of_bodyS (code := code) (maxLocals := maxLocals) (ret := ret) (by decide) ?_ ?_
  · intro args s m h hn
    obtain ⟨meth, c, h1, h2, h3, h4, h5, h6, -, -⟩ := Cond.code_spec hn (atoms_spec (ws := Jvm.Cond.code x code maxLocals ret :: tables_1) h _ List.mem_cons_self)
    exact ⟨meth, c, h1, h2, h3, h4, h5, h6⟩
  · intro p e s m args below meth c s₁ B hml0 hP _
    obtain ⟨rfl, hx, hbd, hgv⟩ := hP
    obtain ⟨scr, harrAt, hlist, hof, hsmall⟩ := hx
    obtain ⟨hcb, hkn, -, -⟩ := State.arrayAt?_spec harrAt
    have hown : s.vm.findClass R_law = some m.cls := findClass_of_methodNamed B.named
    have hts0 : ∀ c ∈ (Jvm.Cond.code x code maxLocals ret :: tables_1), c.before #[Value.ref b] s = true := atoms_spec (ws := Jvm.Cond.code x code maxLocals ret :: tables_1) B.pre
    have hts : ∀ w ∈ lw_tbl, w.before #[Value.ref b] s = true := k2_hts_sels lw_privs (fun w hw => hts0 w (List.mem_cons_of_mem _ hw)) lw_privs_ok
    have hml : c.maxLocals = 4 := B.maxLocals_eq (hts0 _ List.mem_cons_self)
    have X₀ : Stand p l e room_1 s m #[Value.ref b] below meth c s₁ [] 0 0 := Stand.of_body B
    have hh0 : s₁.heap = s.heap := by rw [B.state]; rfl
    have hsz : scr.slots.size = xs.length := by rw [← Array.length_toList, hlist, List.length_map]
    have hval : ∀ j : Nat, j < xs.length → scr.slots[j]? = some (.int (xs.getD j 0)) := fun j hj => by
      rw [← Array.getElem?_toList, hlist]
      simp [hj]
    have hbl : b < s.heap.size := (Array.getElem?_eq_some_iff.mp hcb).1
    have hX : va_X b xs.length (fun j => xs.getD j 0) s s.heap := ⟨scr, hcb, hof, hkn, hsz, hval⟩
    have K : W p l e room_1 s m #[Value.ref b] below meth c s₁.heap [] 0 0 (lw_Z below #[Value.ref b] s) (entryFrame m ([Value.ref b] : List Value).toArray 4) := by
      rw [hh0]
      exact whole_start l hflags hbd ⟨B.exec, B.bytes, B.returns, hml, hown, hts, hX, hbl, B.notSynchronized, hgv⟩
    obtain ⟨t, a1, o, b1, b2, b3⟩ := K s₁ rfl X₀
    exact ⟨t, o, a1, b1, b2, b3⟩
theorem lw_pre_spec {args : Array Value} {s : State} (h : (Jvm.Cond.and given_1 narrow_1).before args s = true) (hr : rest_1_c.before args s = true) : ∃ (b : Addr) (xs : List Int32), lw_P b xs args s := by
  have hs := flat_of_before _ h
  have hq := flat_of_before _ hr
  have hc : (Cond.count 1).before args s = true := hs _ (by decide +kernel)
  have harr : (Cond.arrayOf (.arg 0) .int).before args s = true := hs _ (by decide +kernel)
  have hle : (Cond.le (.length (.arg 0)) (.int 288)).before args s = true := hs _ (by decide +kernel)
  have hlen : (Cond.isInt (.length (.arg 0))).before args s = true := hq _ (by decide +kernel)
  have hall : (Cond.all (.arg 0) (.isInt (.elem (.arg 0) (.index 0)))).before args s = true := hq _ (by decide +kernel)
  obtain ⟨b, xs, hb, hx⟩ := State.ints_of_pre rfl harr hlen hall
  have hsm : xs.length < 2 ^ 31 := hx.choose_spec.2.2.2
  have hev : (Term.length (.arg 0)).eval args s none [] s = some (.int xs.length.toInt32) := hx.length_eval hb
  have hv := Cond.le_ints hev (show (Term.int 288).eval args s none [] s = some (.int 288) from rfl)
  have hd : xs.length.toInt32 ≤ 288 := by
    simpa [Cond.before, Cond.holds, hv] using hle
  have hN : xs.length ≤ 288 := (Int32.ofNat_le_ofNat hsm (by decide)).mp (show Int32.ofNat xs.length ≤ Int32.ofNat 288 from hd)
  exact ⟨b, xs, Cond.one_arg hc (show args[0]? = some (.ref b) from hb), hx, hN, h⟩
theorem lw_comes (l : Launch) (hflags : l.flags = flags0) : Comes l x (Jvm.Cond.code x code maxLocals ret :: tables_1) room_1 (fun tb e args s => Calls_1 tb e args s ∧ rest_1 tb e args s ∧ Pre_1 tb e args s)
    (fun _ _ args s o t => lw_Q args s o t) := by
  intro p e ha hc hk s m args below hf hfit hheap happ hpre
  obtain ⟨b, xs, hP⟩ := lw_pre_spec hpre.2.2 hpre.2.1
  obtain ⟨k, o, h1, h2, h3, hQ⟩ := lw_walk l hflags b xs p e ha hc hk s m args below hf ((Spec.applies_iff_loose hf).mp happ).1 hP trivial
  exact ⟨k, o, h1, h2, h3, hQ⟩
theorem lw_frame {s t : State} {o : Outcome} {args : Array Value} (h : Framed s o t [] 1200000 5502250) :
    Framed s o t (fieldLocs frame_1_writes args s ++ arrayLocs frame_1_arrays args s ++ staticLocs frame_1_statics s) 1200000 5502250 := h
theorem lw_limb (L : Cond) (hL : ∀ (args : Array Value) (s t : State), L.after args s (.returned (some (.int 1))) t = true) :
    ArmFor flags0 classFile x code maxLocals ret World_1 tables_1 room_1 Calls_1 rest_1 Pre_1
      (fun tb e a s o t => postC L tb e a s o t ∧ Framed s o t (fieldLocs frame_1_writes a s ++ arrayLocs frame_1_arrays a s ++ staticLocs frame_1_statics s) 1200000 5502250) := by
  intro l hflags _ _ p e ha hc hk s m args below hf hfit hheap happ hpre
  obtain ⟨k, o, h1, h2, h3, rfl, hF⟩ := lw_comes l hflags p e ha hc hk s m args below hf hfit hheap happ hpre
  exact ⟨k, _, h1, h2, h3, hL args s _, lw_frame hF⟩
theorem i_vc : Claimed_1_1 ∧ Claimed_1_2 := ⟨lw_limb limb_1_1 (fun args s t => by simp [limb_1_1, Cond.after, Cond.holds, Cond.value]), lw_limb limb_1_2 (fun args s t => Cond.after_iff.mpr (by
  first | (rw [show limb_1_2 = Cond.eq .result (.int 1) from rfl, Cond.eq_ints (x := 1) (y := 1) rfl rfl]; simp; done) | (simp [limb_1_2, Cond.value, Term.eval]; done)))⟩
end
