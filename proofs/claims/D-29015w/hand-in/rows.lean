section
-- ===== PART A: goes FIRST, ahead of the names: the tables' words, and 'selects' of the private methods out of them =====
/-- a private method of a class that the tables say can be made, by its rows of tables_1 -/
def lw_okq (q : MethodName × Nat) : Prop := (q.1.cls ≠ "java/lang/invoke/MethodHandle" ∧ q.1.cls ≠ "java/lang/invoke/VarHandle") ∧ Cond.instantiable q.1.cls q.2 ∈ tables_1 ∧ Cond.privateMethod q.1 ∈ tables_1 ∧ Cond.instanceMethod q.1 ∈ tables_1
set_option maxRecDepth 100000
theorem lw_t1 {w : Cond} (h : w ∈ tables_1_1) : w ∈ tables_1 := List.mem_append_left _ h
theorem lw_t2 {w : Cond} (h : w ∈ tables_1_2) : w ∈ tables_1 := List.mem_append_right _ (List.mem_append_left _ h)
theorem lw_t3 {w : Cond} (h : w ∈ tables_1_3) : w ∈ tables_1 := List.mem_append_right _ (List.mem_append_right _ h)
theorem lw_p0 : lw_okq (⟨"BlockPacker", "word", "(II)V"⟩, 8) := ⟨⟨by decide +kernel, by decide +kernel⟩, lw_t1 (List.mem_of_getElem? (i := 32) rfl), lw_t1 (List.mem_of_getElem? (i := 90) rfl), lw_t1 (List.mem_of_getElem? (i := 91) rfl)⟩
theorem lw_p1 : lw_okq (⟨"java/lang/Throwable", "fillInStackTrace", "(I)Ljava/lang/Throwable;"⟩, 6) := ⟨⟨by decide +kernel, by decide +kernel⟩, lw_t1 (List.mem_of_getElem? (i := 161) rfl), lw_t1 (List.mem_of_getElem? (i := 159) rfl), lw_t1 (List.mem_of_getElem? (i := 160) rfl)⟩
def lw_privs_1 : List (MethodName × Nat) := [(⟨"BlockPacker", "word", "(II)V"⟩, 8), (⟨"java/lang/Throwable", "fillInStackTrace", "(I)Ljava/lang/Throwable;"⟩, 6)]
theorem lw_r1 : ∀ q ∈ lw_privs_1, lw_okq q := List.forall_mem_cons.mpr ⟨lw_p0, List.forall_mem_cons.mpr ⟨lw_p1, fun _ h => absurd h List.not_mem_nil⟩⟩
def lw_privs : List (MethodName × Nat) := lw_privs_1
def lw_tbl : List Cond := k2_sels lw_privs ++ tables_1
theorem lw_privs_ok : ∀ q ∈ lw_privs, lw_okq q := lw_r1
-- ===== ONE list of words for every method: the tables' words that hold all through a run =====
def lw_all : List Cond := lw_tbl.filter goodWord
/-- a word of the tables by its place: claim/WORDS.tsv -/
theorem lw_w {w : Cond} (i : Nat) (h : lw_tbl[i]? = some w) (g : goodWord w = true) : w ∈ lw_all := List.mem_filter.mpr ⟨List.mem_of_getElem? h, g⟩
theorem lw_all_tbl {w : Cond} (h : w ∈ lw_all) : w ∈ lw_tbl := (List.mem_filter.mp h).1
theorem lw_self : GoodIn lw_all lw_all := fun w h => ⟨h, good_of_word (List.mem_filter.mp h).2⟩
/-- a class's field words, by their places -/
theorem lw_in (ws : List Cond) (ps : List Nat) (hp : ws = ps.filterMap (fun i => lw_tbl[i]?)) (hg : ws.all goodWord = true) : ∀ w ∈ ws, w ∈ lw_all := by
  intro w h
  have h1 := List.all_eq_true.mp hg w h
  rw [hp] at h
  obtain ⟨i, -, hi⟩ := List.mem_filterMap.mp h
  exact lw_w i hi h1
/-- the words of a contract for the method y with code b, L locals, answer r -/
abbrev ws_ (y : MethodName) (b : ByteArray) (L : Nat) (r : Option FieldType) : List Cond := Cond.code y b L r :: lw_all
theorem lw_meth {y : MethodName} {b : ByteArray} {L : Nat} {r : Option FieldType} (h : Cond.code y b L r ∈ lw_all) : GoodIn lw_all (ws_ y b L r) := by
  intro w hw
  rcases List.mem_cons.mp hw with e | e
  · rw [e]
    exact lw_self _ h
  · exact lw_self _ e
theorem lw_app {a c : List Cond} (ha : ∀ w ∈ a, w ∈ lw_all) (hc : GoodIn lw_all c) : GoodIn lw_all (a ++ c) := by
  intro w hw
  rcases List.mem_append.mp hw with e | e
  · exact lw_self w (ha w e)
  · exact hc w e
/-- what a call through an object asks: cwV n hts (lw_V ..) -/
theorem lw_V {own : String} {idx : Nat} {C : String} {y : MethodName} {b : ByteArray} {L : Nat} {r : Option FieldType} (h1 : Cond.methodLink own idx y ∈ lw_all) (h2 : Cond.instanceMethod y ∈ lw_all) (h3 : Cond.selects C y y ∈ lw_all) (h4 : Cond.initialized C ∈ lw_all) (h5 : Cond.code y b L r ∈ lw_all) : GoodIn lw_all (wsV own idx C y (ws_ y b L r)) := by
  refine lw_app ?_ (lw_meth h5)
  intro w hw
  simp only [List.mem_cons, List.not_mem_nil, or_false] at hw
  rcases hw with e | e | e | e
  · rw [e]; exact h1
  · rw [e]; exact h2
  · rw [e]; exact h3
  · rw [e]; exact h4
/-- what a static call asks: va_cwS n hts (lw_S ..) -/
theorem lw_S {own : String} {idx : Nat} {y : MethodName} {b : ByteArray} {L : Nat} {r : Option FieldType} (h1 : Cond.methodLink own idx y ∈ lw_all) (h2 : Cond.static y ∈ lw_all) (h3 : Cond.initialized y.cls ∈ lw_all) (h4 : Cond.code y b L r ∈ lw_all) : GoodIn lw_all (va_wsS own idx y (ws_ y b L r)) := by
  refine lw_app ?_ (lw_meth h4)
  intro w hw
  simp only [List.mem_cons, List.not_mem_nil, or_false] at hw
  rcases hw with e | e | e
  · rw [e]; exact h1
  · rw [e]; exact h2
  · rw [e]; exact h3
/-- the words of a contract for a method WITH HANDLERS (hh: its table) -/
abbrev wsW_ (y : MethodName) (b : ByteArray) (L : Nat) (r : Option FieldType) (hh : List (Nat × Nat × Nat × Nat)) : List Cond := Cond.codeWith y b L r hh :: lw_all
theorem lw_methW {y : MethodName} {b : ByteArray} {L : Nat} {r : Option FieldType} {hh : List (Nat × Nat × Nat × Nat)} (h : Cond.codeWith y b L r hh ∈ lw_all) : GoodIn lw_all (wsW_ y b L r hh) := by
  intro w hw
  rcases List.mem_cons.mp hw with e | e
  · rw [e]
    exact lw_self _ h
  · exact lw_self _ e
/-- any list of words by their places (lw_in), good -/
theorem lw_good {ws : List Cond} (h : ∀ w ∈ ws, w ∈ lw_all) : GoodIn lw_all ws := fun w hw => lw_self w (h w hw)
/-- what a call of a method with handlers asks: vx_cwVW n hts (lw_VW ..), vx_cwSW n hts (lw_SW ..) -/
theorem lw_VW {own : String} {idx : Nat} {C : String} {y : MethodName} {b : ByteArray} {L : Nat} {r : Option FieldType} {hh : List (Nat × Nat × Nat × Nat)} (h1 : Cond.methodLink own idx y ∈ lw_all) (h2 : Cond.instanceMethod y ∈ lw_all) (h3 : Cond.selects C y y ∈ lw_all) (h4 : Cond.initialized C ∈ lw_all) (h5 : Cond.codeWith y b L r hh ∈ lw_all) : GoodIn lw_all (wsV own idx C y (wsW_ y b L r hh)) := by
  refine lw_app ?_ (lw_methW h5)
  intro w hw
  simp only [List.mem_cons, List.not_mem_nil, or_false] at hw
  rcases hw with e | e | e | e
  · rw [e]; exact h1
  · rw [e]; exact h2
  · rw [e]; exact h3
  · rw [e]; exact h4
theorem lw_SW {own : String} {idx : Nat} {y : MethodName} {b : ByteArray} {L : Nat} {r : Option FieldType} {hh : List (Nat × Nat × Nat × Nat)} (h1 : Cond.methodLink own idx y ∈ lw_all) (h2 : Cond.static y ∈ lw_all) (h3 : Cond.initialized y.cls ∈ lw_all) (h4 : Cond.codeWith y b L r hh ∈ lw_all) : GoodIn lw_all (va_wsS own idx y (wsW_ y b L r hh)) := by
  refine lw_app ?_ (lw_methW h4)
  intro w hw
  simp only [List.mem_cons, List.not_mem_nil, or_false] at hw
  rcases hw with e | e | e
  · rw [e]; exact h1
  · rw [e]; exact h2
  · rw [e]; exact h3
/-- a word by its place in its run of the tables -/
theorem lw_at {r : List Cond} (hr : ∀ w ∈ r, w ∈ lw_tbl) {w : Cond} (i : Nat) (h : r[i]? = some w) : w ∈ lw_tbl := hr w (List.mem_of_getElem? h)
theorem lw_g {w : Cond} (h : w ∈ lw_tbl) (g : goodWord w = true) : w ∈ lw_all := List.mem_filter.mpr ⟨h, g⟩
theorem lw_ms : ∀ w ∈ k2_sels lw_privs, w ∈ lw_tbl := fun w h => show w ∈ k2_sels lw_privs ++ tables_1 from List.mem_append_left _ h
theorem lw_m1 : ∀ w ∈ tables_1_1, w ∈ lw_tbl := fun w h => show w ∈ k2_sels lw_privs ++ tables_1 from List.mem_append_right (k2_sels lw_privs) (show w ∈ tables_1 from List.mem_append_left _ h)
theorem lw_m2 : ∀ w ∈ tables_1_2, w ∈ lw_tbl := fun w h => show w ∈ k2_sels lw_privs ++ tables_1 from List.mem_append_right (k2_sels lw_privs) (show w ∈ tables_1 from List.mem_append_right _ (List.mem_append_left _ h))
theorem lw_m3 : ∀ w ∈ tables_1_3, w ∈ lw_tbl := fun w h => show w ∈ k2_sels lw_privs ++ tables_1 from List.mem_append_right (k2_sels lw_privs) (show w ∈ tables_1 from List.mem_append_right _ (List.mem_append_right _ h))
theorem qs0 : (Cond.selects "BlockPacker" ⟨"BlockPacker", "word", "(II)V"⟩ ⟨"BlockPacker", "word", "(II)V"⟩) ∈ lw_all := lw_g (lw_at lw_ms 0 rfl) rfl
theorem qs1 : (Cond.selects "java/lang/Throwable" ⟨"java/lang/Throwable", "fillInStackTrace", "(I)Ljava/lang/Throwable;"⟩ ⟨"java/lang/Throwable", "fillInStackTrace", "(I)Ljava/lang/Throwable;"⟩) ∈ lw_all := lw_g (lw_at lw_ms 1 rfl) rfl
end
section
/-! DECODE ROWS BY BYTES: one lemma an opcode; a method's code is cut into short pieces once, and a row reads its own piece alone. -/
set_option maxRecDepth 100000
/-- the code has just these bytes from pc on -/
def DkAt (code : ByteArray) (pc : Nat) (bs : List UInt8) : Prop := ∀ (j : Nat) (b : UInt8), bs[j]? = some b → code.data.toList[pc + j]? = some b
/-- the piece W has the bytes bs from its place j on -/
def dkIn (W : List UInt8) (j : Nat) (bs : List UInt8) : Bool := decide ((W.drop j).take bs.length = bs)
theorem dk_seg {l W T : List UInt8} {o o2 : Nat} (h : l.drop o = W ++ T) (n : Nat) (hn : W.length = n) (ho : o + n = o2) : l.drop o2 = T := by
  subst ho
  rw [← List.drop_drop, h, List.drop_left' hn]
theorem dk_at {code : ByteArray} {W T bs : List UInt8} {o pc : Nat} (h : code.data.toList.drop o = W ++ T) (j : Nat) (hp : o + j = pc) (hw : dkIn W j bs = true) : DkAt code pc bs := by
  subst hp
  intro i b e
  have h1 := of_decide_eq_true hw
  have h2 : i < bs.length := (List.getElem?_eq_some_iff.mp e).1
  have h3 : W[j + i]? = some b := by
    rw [← h1, List.getElem?_take, if_pos h2, List.getElem?_drop] at e
    exact e
  have h4 : j + i < W.length := (List.getElem?_eq_some_iff.mp h3).1
  have h5 : (code.data.toList.drop o)[j + i]? = some b := by
    rw [h, List.getElem?_append_left h4]
    exact h3
  rw [List.getElem?_drop, ← Nat.add_assoc] at h5
  exact h5
theorem dk_u1 {A : ByteArray} {p : Nat} {b : UInt8} (h : A.data.toList[p]? = some b) : (Reader.u1 : Reader DecodeError Nat) A p = .ok (b.toNat, p + 1) := by
  obtain ⟨h1, h2⟩ := List.getElem?_eq_some_iff.mp h
  have h3 : p < A.size := by simpa using h1
  have h4 : A[p]'h3 = b := h2
  have e : (Reader.u1 : Reader DecodeError Nat) A p = (if h : p < A.size then .ok (A[p].toNat, p + 1) else .error (HasTruncated.truncated p)) := by
    show (do if h : p < A.size then do set (p + 1); Pure.pure A[p].toNat else MonadExcept.throw (HasTruncated.truncated p) : Reader DecodeError Nat) A p = _
    by_cases hi : p < A.size
    · rw [dif_pos hi, dif_pos hi]; rfl
    · rw [dif_neg hi, dif_neg hi]; rfl
  rw [e, dif_pos h3, h4]
theorem dk_bind {α β : Type} {r : Reader DecodeError α} {f : α → Reader DecodeError β} {A : ByteArray} {p s : Nat} {a : α} (h : r A p = .ok (a, s)) : (r >>= f) A p = f a A s := by
  show (do let (a, s) ← r A p; f a A s : Except DecodeError (β × Nat)) = _
  rw [h]
  rfl
theorem dk_map {α β : Type} {r : Reader DecodeError α} {g : α → β} {A : ByteArray} {p s : Nat} {a : α} (h : r A p = .ok (a, s)) : (g <$> r) A p = .ok (g a, s) := by
  show (do let (a, s) ← r A p; .ok (g a, s) : Except DecodeError (β × Nat)) = _
  rw [h]
  rfl
theorem dk_u2 {A : ByteArray} {p : Nat} {a b : UInt8} (h : A.data.toList[p]? = some a) (h2 : A.data.toList[p + 1]? = some b) : (Reader.u2 : Reader DecodeError Nat) A p = .ok (a.toNat * 256 + b.toNat, p + 2) := by
  show (Reader.u1 >>= fun hi => Reader.u1 >>= fun lo => Pure.pure (hi * 256 + lo) : Reader DecodeError Nat) A p = _
  rw [dk_bind (dk_u1 h), dk_bind (dk_u1 h2)]
  rfl
theorem dk_of {code : ByteArray} {pc n : Nat} {i : Instr} (h : Decoder.instr pc code pc = .ok (i, pc + n)) : decode code pc = .ok (i, n) := by
  have e : decode code pc = (match Decoder.instr pc code pc with | .error x => .error x | .ok (j, s) => .ok (j, s - pc)) := by
    show (do let (j, s) ← Decoder.instr pc code pc; Pure.pure (j, s - pc) : Except DecodeError (Instr × Nat)) = _
    cases Decoder.instr pc code pc <;> rfl
  rw [e, h]
  show Except.ok (i, pc + n - pc) = _
  rw [Nat.add_sub_cancel_left]
theorem dk_1 {code : ByteArray} {pc : Nat} (h : DkAt code pc [1]) : decode code pc = .ok (.aconst_null, 1) := dk_of ((dk_bind (dk_u1 (h 0 _ rfl))).trans rfl)
theorem dk_2 {code : ByteArray} {pc : Nat} (h : DkAt code pc [2]) : decode code pc = .ok (.iconst (-1), 1) := dk_of ((dk_bind (dk_u1 (h 0 _ rfl))).trans rfl)
theorem dk_3 {code : ByteArray} {pc : Nat} (h : DkAt code pc [3]) : decode code pc = .ok (.iconst 0, 1) := dk_of ((dk_bind (dk_u1 (h 0 _ rfl))).trans rfl)
theorem dk_4 {code : ByteArray} {pc : Nat} (h : DkAt code pc [4]) : decode code pc = .ok (.iconst 1, 1) := dk_of ((dk_bind (dk_u1 (h 0 _ rfl))).trans rfl)
theorem dk_5 {code : ByteArray} {pc : Nat} (h : DkAt code pc [5]) : decode code pc = .ok (.iconst 2, 1) := dk_of ((dk_bind (dk_u1 (h 0 _ rfl))).trans rfl)
theorem dk_6 {code : ByteArray} {pc : Nat} (h : DkAt code pc [6]) : decode code pc = .ok (.iconst 3, 1) := dk_of ((dk_bind (dk_u1 (h 0 _ rfl))).trans rfl)
theorem dk_7 {code : ByteArray} {pc : Nat} (h : DkAt code pc [7]) : decode code pc = .ok (.iconst 4, 1) := dk_of ((dk_bind (dk_u1 (h 0 _ rfl))).trans rfl)
theorem dk_8 {code : ByteArray} {pc : Nat} (h : DkAt code pc [8]) : decode code pc = .ok (.iconst 5, 1) := dk_of ((dk_bind (dk_u1 (h 0 _ rfl))).trans rfl)
theorem dk_10 {code : ByteArray} {pc : Nat} (h : DkAt code pc [10]) : decode code pc = .ok (.lconst 1, 1) := dk_of ((dk_bind (dk_u1 (h 0 _ rfl))).trans rfl)
theorem dk_16 {code : ByteArray} {pc : Nat} (a : UInt8) (h : DkAt code pc [16, a]) : decode code pc = .ok (.bipush (Reader.signed 8 a.toNat), 2) := dk_of ((dk_bind (dk_u1 (h 0 _ rfl))).trans ((dk_bind (dk_map (dk_u1 (h 1 _ rfl)))).trans rfl))
theorem dk_17 {code : ByteArray} {pc : Nat} (a b : UInt8) (h : DkAt code pc [17, a, b]) : decode code pc = .ok (.sipush (Reader.signed 16 (a.toNat * 256 + b.toNat)), 3) := dk_of ((dk_bind (dk_u1 (h 0 _ rfl))).trans ((dk_bind (dk_map (dk_u2 (h 1 _ rfl) (h 2 _ rfl)))).trans rfl))
theorem dk_18 {code : ByteArray} {pc : Nat} (a : UInt8) (h : DkAt code pc [18, a]) : decode code pc = .ok (.ldc a.toNat, 2) := dk_of ((dk_bind (dk_u1 (h 0 _ rfl))).trans ((dk_bind (dk_u1 (h 1 _ rfl))).trans rfl))
theorem dk_19 {code : ByteArray} {pc : Nat} (a b : UInt8) (h : DkAt code pc [19, a, b]) : decode code pc = .ok (.ldc_w (a.toNat * 256 + b.toNat), 3) := dk_of ((dk_bind (dk_u1 (h 0 _ rfl))).trans ((dk_bind (dk_u2 (h 1 _ rfl) (h 2 _ rfl))).trans rfl))
theorem dk_20 {code : ByteArray} {pc : Nat} (a b : UInt8) (h : DkAt code pc [20, a, b]) : decode code pc = .ok (.ldc2_w (a.toNat * 256 + b.toNat), 3) := dk_of ((dk_bind (dk_u1 (h 0 _ rfl))).trans ((dk_bind (dk_u2 (h 1 _ rfl) (h 2 _ rfl))).trans rfl))
theorem dk_21 {code : ByteArray} {pc : Nat} (a : UInt8) (h : DkAt code pc [21, a]) : decode code pc = .ok (.iload a.toNat, 2) := dk_of ((dk_bind (dk_u1 (h 0 _ rfl))).trans ((dk_bind (dk_u1 (h 1 _ rfl))).trans rfl))
theorem dk_25 {code : ByteArray} {pc : Nat} (a : UInt8) (h : DkAt code pc [25, a]) : decode code pc = .ok (.aload a.toNat, 2) := dk_of ((dk_bind (dk_u1 (h 0 _ rfl))).trans ((dk_bind (dk_u1 (h 1 _ rfl))).trans rfl))
theorem dk_26 {code : ByteArray} {pc : Nat} (h : DkAt code pc [26]) : decode code pc = .ok (.iload_n 0, 1) := dk_of ((dk_bind (dk_u1 (h 0 _ rfl))).trans rfl)
theorem dk_27 {code : ByteArray} {pc : Nat} (h : DkAt code pc [27]) : decode code pc = .ok (.iload_n 1, 1) := dk_of ((dk_bind (dk_u1 (h 0 _ rfl))).trans rfl)
theorem dk_28 {code : ByteArray} {pc : Nat} (h : DkAt code pc [28]) : decode code pc = .ok (.iload_n 2, 1) := dk_of ((dk_bind (dk_u1 (h 0 _ rfl))).trans rfl)
theorem dk_29 {code : ByteArray} {pc : Nat} (h : DkAt code pc [29]) : decode code pc = .ok (.iload_n 3, 1) := dk_of ((dk_bind (dk_u1 (h 0 _ rfl))).trans rfl)
theorem dk_32 {code : ByteArray} {pc : Nat} (h : DkAt code pc [32]) : decode code pc = .ok (.lload_n 2, 1) := dk_of ((dk_bind (dk_u1 (h 0 _ rfl))).trans rfl)
theorem dk_42 {code : ByteArray} {pc : Nat} (h : DkAt code pc [42]) : decode code pc = .ok (.aload_n 0, 1) := dk_of ((dk_bind (dk_u1 (h 0 _ rfl))).trans rfl)
theorem dk_43 {code : ByteArray} {pc : Nat} (h : DkAt code pc [43]) : decode code pc = .ok (.aload_n 1, 1) := dk_of ((dk_bind (dk_u1 (h 0 _ rfl))).trans rfl)
theorem dk_44 {code : ByteArray} {pc : Nat} (h : DkAt code pc [44]) : decode code pc = .ok (.aload_n 2, 1) := dk_of ((dk_bind (dk_u1 (h 0 _ rfl))).trans rfl)
theorem dk_45 {code : ByteArray} {pc : Nat} (h : DkAt code pc [45]) : decode code pc = .ok (.aload_n 3, 1) := dk_of ((dk_bind (dk_u1 (h 0 _ rfl))).trans rfl)
theorem dk_46 {code : ByteArray} {pc : Nat} (h : DkAt code pc [46]) : decode code pc = .ok (.iaload, 1) := dk_of ((dk_bind (dk_u1 (h 0 _ rfl))).trans rfl)
theorem dk_51 {code : ByteArray} {pc : Nat} (h : DkAt code pc [51]) : decode code pc = .ok (.baload, 1) := dk_of ((dk_bind (dk_u1 (h 0 _ rfl))).trans rfl)
theorem dk_53 {code : ByteArray} {pc : Nat} (h : DkAt code pc [53]) : decode code pc = .ok (.saload, 1) := dk_of ((dk_bind (dk_u1 (h 0 _ rfl))).trans rfl)
theorem dk_54 {code : ByteArray} {pc : Nat} (a : UInt8) (h : DkAt code pc [54, a]) : decode code pc = .ok (.istore a.toNat, 2) := dk_of ((dk_bind (dk_u1 (h 0 _ rfl))).trans ((dk_bind (dk_u1 (h 1 _ rfl))).trans rfl))
theorem dk_58 {code : ByteArray} {pc : Nat} (a : UInt8) (h : DkAt code pc [58, a]) : decode code pc = .ok (.astore a.toNat, 2) := dk_of ((dk_bind (dk_u1 (h 0 _ rfl))).trans ((dk_bind (dk_u1 (h 1 _ rfl))).trans rfl))
theorem dk_59 {code : ByteArray} {pc : Nat} (h : DkAt code pc [59]) : decode code pc = .ok (.istore_n 0, 1) := dk_of ((dk_bind (dk_u1 (h 0 _ rfl))).trans rfl)
theorem dk_60 {code : ByteArray} {pc : Nat} (h : DkAt code pc [60]) : decode code pc = .ok (.istore_n 1, 1) := dk_of ((dk_bind (dk_u1 (h 0 _ rfl))).trans rfl)
theorem dk_61 {code : ByteArray} {pc : Nat} (h : DkAt code pc [61]) : decode code pc = .ok (.istore_n 2, 1) := dk_of ((dk_bind (dk_u1 (h 0 _ rfl))).trans rfl)
theorem dk_62 {code : ByteArray} {pc : Nat} (h : DkAt code pc [62]) : decode code pc = .ok (.istore_n 3, 1) := dk_of ((dk_bind (dk_u1 (h 0 _ rfl))).trans rfl)
theorem dk_65 {code : ByteArray} {pc : Nat} (h : DkAt code pc [65]) : decode code pc = .ok (.lstore_n 2, 1) := dk_of ((dk_bind (dk_u1 (h 0 _ rfl))).trans rfl)
theorem dk_76 {code : ByteArray} {pc : Nat} (h : DkAt code pc [76]) : decode code pc = .ok (.astore_n 1, 1) := dk_of ((dk_bind (dk_u1 (h 0 _ rfl))).trans rfl)
theorem dk_77 {code : ByteArray} {pc : Nat} (h : DkAt code pc [77]) : decode code pc = .ok (.astore_n 2, 1) := dk_of ((dk_bind (dk_u1 (h 0 _ rfl))).trans rfl)
theorem dk_78 {code : ByteArray} {pc : Nat} (h : DkAt code pc [78]) : decode code pc = .ok (.astore_n 3, 1) := dk_of ((dk_bind (dk_u1 (h 0 _ rfl))).trans rfl)
theorem dk_79 {code : ByteArray} {pc : Nat} (h : DkAt code pc [79]) : decode code pc = .ok (.iastore, 1) := dk_of ((dk_bind (dk_u1 (h 0 _ rfl))).trans rfl)
theorem dk_84 {code : ByteArray} {pc : Nat} (h : DkAt code pc [84]) : decode code pc = .ok (.bastore, 1) := dk_of ((dk_bind (dk_u1 (h 0 _ rfl))).trans rfl)
theorem dk_86 {code : ByteArray} {pc : Nat} (h : DkAt code pc [86]) : decode code pc = .ok (.sastore, 1) := dk_of ((dk_bind (dk_u1 (h 0 _ rfl))).trans rfl)
theorem dk_87 {code : ByteArray} {pc : Nat} (h : DkAt code pc [87]) : decode code pc = .ok (.pop, 1) := dk_of ((dk_bind (dk_u1 (h 0 _ rfl))).trans rfl)
theorem dk_89 {code : ByteArray} {pc : Nat} (h : DkAt code pc [89]) : decode code pc = .ok (.dup, 1) := dk_of ((dk_bind (dk_u1 (h 0 _ rfl))).trans rfl)
theorem dk_96 {code : ByteArray} {pc : Nat} (h : DkAt code pc [96]) : decode code pc = .ok (.iadd, 1) := dk_of ((dk_bind (dk_u1 (h 0 _ rfl))).trans rfl)
theorem dk_97 {code : ByteArray} {pc : Nat} (h : DkAt code pc [97]) : decode code pc = .ok (.ladd, 1) := dk_of ((dk_bind (dk_u1 (h 0 _ rfl))).trans rfl)
theorem dk_100 {code : ByteArray} {pc : Nat} (h : DkAt code pc [100]) : decode code pc = .ok (.isub, 1) := dk_of ((dk_bind (dk_u1 (h 0 _ rfl))).trans rfl)
theorem dk_104 {code : ByteArray} {pc : Nat} (h : DkAt code pc [104]) : decode code pc = .ok (.imul, 1) := dk_of ((dk_bind (dk_u1 (h 0 _ rfl))).trans rfl)
theorem dk_108 {code : ByteArray} {pc : Nat} (h : DkAt code pc [108]) : decode code pc = .ok (.idiv, 1) := dk_of ((dk_bind (dk_u1 (h 0 _ rfl))).trans rfl)
theorem dk_112 {code : ByteArray} {pc : Nat} (h : DkAt code pc [112]) : decode code pc = .ok (.irem, 1) := dk_of ((dk_bind (dk_u1 (h 0 _ rfl))).trans rfl)
theorem dk_116 {code : ByteArray} {pc : Nat} (h : DkAt code pc [116]) : decode code pc = .ok (.ineg, 1) := dk_of ((dk_bind (dk_u1 (h 0 _ rfl))).trans rfl)
theorem dk_120 {code : ByteArray} {pc : Nat} (h : DkAt code pc [120]) : decode code pc = .ok (.ishl, 1) := dk_of ((dk_bind (dk_u1 (h 0 _ rfl))).trans rfl)
theorem dk_122 {code : ByteArray} {pc : Nat} (h : DkAt code pc [122]) : decode code pc = .ok (.ishr, 1) := dk_of ((dk_bind (dk_u1 (h 0 _ rfl))).trans rfl)
theorem dk_124 {code : ByteArray} {pc : Nat} (h : DkAt code pc [124]) : decode code pc = .ok (.iushr, 1) := dk_of ((dk_bind (dk_u1 (h 0 _ rfl))).trans rfl)
theorem dk_126 {code : ByteArray} {pc : Nat} (h : DkAt code pc [126]) : decode code pc = .ok (.iand, 1) := dk_of ((dk_bind (dk_u1 (h 0 _ rfl))).trans rfl)
theorem dk_128 {code : ByteArray} {pc : Nat} (h : DkAt code pc [128]) : decode code pc = .ok (.ior, 1) := dk_of ((dk_bind (dk_u1 (h 0 _ rfl))).trans rfl)
theorem dk_132 {code : ByteArray} {pc : Nat} (a b : UInt8) (h : DkAt code pc [132, a, b]) : decode code pc = .ok (.iinc a.toNat (Reader.signed 8 b.toNat), 3) := dk_of ((dk_bind (dk_u1 (h 0 _ rfl))).trans ((dk_bind (dk_u1 (h 1 _ rfl))).trans ((dk_bind (dk_map (dk_u1 (h 2 _ rfl)))).trans rfl)))
theorem dk_133 {code : ByteArray} {pc : Nat} (h : DkAt code pc [133]) : decode code pc = .ok (.i2l, 1) := dk_of ((dk_bind (dk_u1 (h 0 _ rfl))).trans rfl)
theorem dk_136 {code : ByteArray} {pc : Nat} (h : DkAt code pc [136]) : decode code pc = .ok (.l2i, 1) := dk_of ((dk_bind (dk_u1 (h 0 _ rfl))).trans rfl)
theorem dk_145 {code : ByteArray} {pc : Nat} (h : DkAt code pc [145]) : decode code pc = .ok (.i2b, 1) := dk_of ((dk_bind (dk_u1 (h 0 _ rfl))).trans rfl)
theorem dk_146 {code : ByteArray} {pc : Nat} (h : DkAt code pc [146]) : decode code pc = .ok (.i2c, 1) := dk_of ((dk_bind (dk_u1 (h 0 _ rfl))).trans rfl)
theorem dk_147 {code : ByteArray} {pc : Nat} (h : DkAt code pc [147]) : decode code pc = .ok (.i2s, 1) := dk_of ((dk_bind (dk_u1 (h 0 _ rfl))).trans rfl)
theorem dk_148 {code : ByteArray} {pc : Nat} (h : DkAt code pc [148]) : decode code pc = .ok (.lcmp, 1) := dk_of ((dk_bind (dk_u1 (h 0 _ rfl))).trans rfl)
theorem dk_153 {code : ByteArray} {pc : Nat} (a b : UInt8) (h : DkAt code pc [153, a, b]) : decode code pc = .ok (.ifCond .eq (Reader.signed 16 (a.toNat * 256 + b.toNat)), 3) := dk_of ((dk_bind (dk_u1 (h 0 _ rfl))).trans ((dk_bind (dk_map (dk_u2 (h 1 _ rfl) (h 2 _ rfl)))).trans rfl))
theorem dk_154 {code : ByteArray} {pc : Nat} (a b : UInt8) (h : DkAt code pc [154, a, b]) : decode code pc = .ok (.ifCond .ne (Reader.signed 16 (a.toNat * 256 + b.toNat)), 3) := dk_of ((dk_bind (dk_u1 (h 0 _ rfl))).trans ((dk_bind (dk_map (dk_u2 (h 1 _ rfl) (h 2 _ rfl)))).trans rfl))
theorem dk_155 {code : ByteArray} {pc : Nat} (a b : UInt8) (h : DkAt code pc [155, a, b]) : decode code pc = .ok (.ifCond .lt (Reader.signed 16 (a.toNat * 256 + b.toNat)), 3) := dk_of ((dk_bind (dk_u1 (h 0 _ rfl))).trans ((dk_bind (dk_map (dk_u2 (h 1 _ rfl) (h 2 _ rfl)))).trans rfl))
theorem dk_156 {code : ByteArray} {pc : Nat} (a b : UInt8) (h : DkAt code pc [156, a, b]) : decode code pc = .ok (.ifCond .ge (Reader.signed 16 (a.toNat * 256 + b.toNat)), 3) := dk_of ((dk_bind (dk_u1 (h 0 _ rfl))).trans ((dk_bind (dk_map (dk_u2 (h 1 _ rfl) (h 2 _ rfl)))).trans rfl))
theorem dk_158 {code : ByteArray} {pc : Nat} (a b : UInt8) (h : DkAt code pc [158, a, b]) : decode code pc = .ok (.ifCond .le (Reader.signed 16 (a.toNat * 256 + b.toNat)), 3) := dk_of ((dk_bind (dk_u1 (h 0 _ rfl))).trans ((dk_bind (dk_map (dk_u2 (h 1 _ rfl) (h 2 _ rfl)))).trans rfl))
theorem dk_159 {code : ByteArray} {pc : Nat} (a b : UInt8) (h : DkAt code pc [159, a, b]) : decode code pc = .ok (.if_icmp .eq (Reader.signed 16 (a.toNat * 256 + b.toNat)), 3) := dk_of ((dk_bind (dk_u1 (h 0 _ rfl))).trans ((dk_bind (dk_map (dk_u2 (h 1 _ rfl) (h 2 _ rfl)))).trans rfl))
theorem dk_160 {code : ByteArray} {pc : Nat} (a b : UInt8) (h : DkAt code pc [160, a, b]) : decode code pc = .ok (.if_icmp .ne (Reader.signed 16 (a.toNat * 256 + b.toNat)), 3) := dk_of ((dk_bind (dk_u1 (h 0 _ rfl))).trans ((dk_bind (dk_map (dk_u2 (h 1 _ rfl) (h 2 _ rfl)))).trans rfl))
theorem dk_161 {code : ByteArray} {pc : Nat} (a b : UInt8) (h : DkAt code pc [161, a, b]) : decode code pc = .ok (.if_icmp .lt (Reader.signed 16 (a.toNat * 256 + b.toNat)), 3) := dk_of ((dk_bind (dk_u1 (h 0 _ rfl))).trans ((dk_bind (dk_map (dk_u2 (h 1 _ rfl) (h 2 _ rfl)))).trans rfl))
theorem dk_162 {code : ByteArray} {pc : Nat} (a b : UInt8) (h : DkAt code pc [162, a, b]) : decode code pc = .ok (.if_icmp .ge (Reader.signed 16 (a.toNat * 256 + b.toNat)), 3) := dk_of ((dk_bind (dk_u1 (h 0 _ rfl))).trans ((dk_bind (dk_map (dk_u2 (h 1 _ rfl) (h 2 _ rfl)))).trans rfl))
theorem dk_163 {code : ByteArray} {pc : Nat} (a b : UInt8) (h : DkAt code pc [163, a, b]) : decode code pc = .ok (.if_icmp .gt (Reader.signed 16 (a.toNat * 256 + b.toNat)), 3) := dk_of ((dk_bind (dk_u1 (h 0 _ rfl))).trans ((dk_bind (dk_map (dk_u2 (h 1 _ rfl) (h 2 _ rfl)))).trans rfl))
theorem dk_164 {code : ByteArray} {pc : Nat} (a b : UInt8) (h : DkAt code pc [164, a, b]) : decode code pc = .ok (.if_icmp .le (Reader.signed 16 (a.toNat * 256 + b.toNat)), 3) := dk_of ((dk_bind (dk_u1 (h 0 _ rfl))).trans ((dk_bind (dk_map (dk_u2 (h 1 _ rfl) (h 2 _ rfl)))).trans rfl))
theorem dk_167 {code : ByteArray} {pc : Nat} (a b : UInt8) (h : DkAt code pc [167, a, b]) : decode code pc = .ok (.goto (Reader.signed 16 (a.toNat * 256 + b.toNat)), 3) := dk_of ((dk_bind (dk_u1 (h 0 _ rfl))).trans ((dk_bind (dk_map (dk_u2 (h 1 _ rfl) (h 2 _ rfl)))).trans rfl))
theorem dk_172 {code : ByteArray} {pc : Nat} (h : DkAt code pc [172]) : decode code pc = .ok (.ireturn, 1) := dk_of ((dk_bind (dk_u1 (h 0 _ rfl))).trans rfl)
theorem dk_176 {code : ByteArray} {pc : Nat} (h : DkAt code pc [176]) : decode code pc = .ok (.areturn, 1) := dk_of ((dk_bind (dk_u1 (h 0 _ rfl))).trans rfl)
theorem dk_177 {code : ByteArray} {pc : Nat} (h : DkAt code pc [177]) : decode code pc = .ok (.return_, 1) := dk_of ((dk_bind (dk_u1 (h 0 _ rfl))).trans rfl)
theorem dk_178 {code : ByteArray} {pc : Nat} (a b : UInt8) (h : DkAt code pc [178, a, b]) : decode code pc = .ok (.getstatic (a.toNat * 256 + b.toNat), 3) := dk_of ((dk_bind (dk_u1 (h 0 _ rfl))).trans ((dk_bind (dk_u2 (h 1 _ rfl) (h 2 _ rfl))).trans rfl))
theorem dk_180 {code : ByteArray} {pc : Nat} (a b : UInt8) (h : DkAt code pc [180, a, b]) : decode code pc = .ok (.getfield (a.toNat * 256 + b.toNat), 3) := dk_of ((dk_bind (dk_u1 (h 0 _ rfl))).trans ((dk_bind (dk_u2 (h 1 _ rfl) (h 2 _ rfl))).trans rfl))
theorem dk_181 {code : ByteArray} {pc : Nat} (a b : UInt8) (h : DkAt code pc [181, a, b]) : decode code pc = .ok (.putfield (a.toNat * 256 + b.toNat), 3) := dk_of ((dk_bind (dk_u1 (h 0 _ rfl))).trans ((dk_bind (dk_u2 (h 1 _ rfl) (h 2 _ rfl))).trans rfl))
theorem dk_182 {code : ByteArray} {pc : Nat} (a b : UInt8) (h : DkAt code pc [182, a, b]) : decode code pc = .ok (.invokevirtual (a.toNat * 256 + b.toNat), 3) := dk_of ((dk_bind (dk_u1 (h 0 _ rfl))).trans ((dk_bind (dk_u2 (h 1 _ rfl) (h 2 _ rfl))).trans rfl))
theorem dk_183 {code : ByteArray} {pc : Nat} (a b : UInt8) (h : DkAt code pc [183, a, b]) : decode code pc = .ok (.invokespecial (a.toNat * 256 + b.toNat), 3) := dk_of ((dk_bind (dk_u1 (h 0 _ rfl))).trans ((dk_bind (dk_u2 (h 1 _ rfl) (h 2 _ rfl))).trans rfl))
theorem dk_184 {code : ByteArray} {pc : Nat} (a b : UInt8) (h : DkAt code pc [184, a, b]) : decode code pc = .ok (.invokestatic (a.toNat * 256 + b.toNat), 3) := dk_of ((dk_bind (dk_u1 (h 0 _ rfl))).trans ((dk_bind (dk_u2 (h 1 _ rfl) (h 2 _ rfl))).trans rfl))
theorem dk_187 {code : ByteArray} {pc : Nat} (a b : UInt8) (h : DkAt code pc [187, a, b]) : decode code pc = .ok (.new (a.toNat * 256 + b.toNat), 3) := dk_of ((dk_bind (dk_u1 (h 0 _ rfl))).trans ((dk_bind (dk_u2 (h 1 _ rfl) (h 2 _ rfl))).trans rfl))
theorem dk_188_8 {code : ByteArray} {pc : Nat} (h : DkAt code pc [188, 8]) : decode code pc = .ok (.newarray .byte, 2) := dk_of ((dk_bind (dk_u1 (h 0 _ rfl))).trans ((dk_bind (dk_u1 (h 1 _ rfl))).trans rfl))
theorem dk_188_9 {code : ByteArray} {pc : Nat} (h : DkAt code pc [188, 9]) : decode code pc = .ok (.newarray .short, 2) := dk_of ((dk_bind (dk_u1 (h 0 _ rfl))).trans ((dk_bind (dk_u1 (h 1 _ rfl))).trans rfl))
theorem dk_188_10 {code : ByteArray} {pc : Nat} (h : DkAt code pc [188, 10]) : decode code pc = .ok (.newarray .int, 2) := dk_of ((dk_bind (dk_u1 (h 0 _ rfl))).trans ((dk_bind (dk_u1 (h 1 _ rfl))).trans rfl))
theorem dk_190 {code : ByteArray} {pc : Nat} (h : DkAt code pc [190]) : decode code pc = .ok (.arraylength, 1) := dk_of ((dk_bind (dk_u1 (h 0 _ rfl))).trans rfl)
theorem dk_191 {code : ByteArray} {pc : Nat} (h : DkAt code pc [191]) : decode code pc = .ok (.athrow, 1) := dk_of ((dk_bind (dk_u1 (h 0 _ rfl))).trans rfl)
theorem dk_192 {code : ByteArray} {pc : Nat} (a b : UInt8) (h : DkAt code pc [192, a, b]) : decode code pc = .ok (.checkcast (a.toNat * 256 + b.toNat), 3) := dk_of ((dk_bind (dk_u1 (h 0 _ rfl))).trans ((dk_bind (dk_u2 (h 1 _ rfl) (h 2 _ rfl))).trans rfl))
theorem dk_199 {code : ByteArray} {pc : Nat} (a b : UInt8) (h : DkAt code pc [199, a, b]) : decode code pc = .ok (.ifnonnull (Reader.signed 16 (a.toNat * 256 + b.toNat)), 3) := dk_of ((dk_bind (dk_u1 (h 0 _ rfl))).trans ((dk_bind (dk_map (dk_u2 (h 1 _ rfl) (h 2 _ rfl)))).trans rfl))
end
section
/-! SafeUtils -/
set_option maxRecDepth 100000
def RX6 : String := "SafeUtils"
abbrev cX6_checkRange : ByteArray := prog_12_method_4_code
def yX6_checkRange : MethodName := ⟨RX6, "checkRange", "([BII)V"⟩
def dkwX6_checkRange_1 : List UInt8 := [183, 0, 30, 191, 177]
abbrev dktX6_checkRange_1 : List UInt8 := dkwX6_checkRange_1 ++ []
def dkwX6_checkRange_0 : List UInt8 := [28, 184, 0, 22, 27, 155, 0, 11, 27, 42, 190, 28, 100, 164, 0, 13, 187, 0, 26, 89, 18, 28]
abbrev dktX6_checkRange_0 : List UInt8 := dkwX6_checkRange_0 ++ dktX6_checkRange_1
theorem dksX6_checkRange_0 : cX6_checkRange.data.toList.drop 0 = dktX6_checkRange_0 := by decide +kernel
theorem dksX6_checkRange_1 : cX6_checkRange.data.toList.drop 22 = dktX6_checkRange_1 := dk_seg dksX6_checkRange_0 22 rfl rfl
theorem dX6_checkRange_0 : decode cX6_checkRange 0 = .ok (.iload_n 2, 1) := dk_28 (dk_at dksX6_checkRange_0 0 rfl rfl)
theorem dX6_checkRange_1 : decode cX6_checkRange 1 = .ok (.invokestatic 22, 3) := dk_184 0 22 (dk_at dksX6_checkRange_0 1 rfl rfl)
theorem dX6_checkRange_4 : decode cX6_checkRange 4 = .ok (.iload_n 1, 1) := dk_27 (dk_at dksX6_checkRange_0 4 rfl rfl)
theorem dX6_checkRange_5 : decode cX6_checkRange 5 = .ok (.ifCond .lt 11, 3) := dk_155 0 11 (dk_at dksX6_checkRange_0 5 rfl rfl)
theorem dX6_checkRange_8 : decode cX6_checkRange 8 = .ok (.iload_n 1, 1) := dk_27 (dk_at dksX6_checkRange_0 8 rfl rfl)
theorem dX6_checkRange_9 : decode cX6_checkRange 9 = .ok (.aload_n 0, 1) := dk_42 (dk_at dksX6_checkRange_0 9 rfl rfl)
theorem dX6_checkRange_10 : decode cX6_checkRange 10 = .ok (.arraylength, 1) := dk_190 (dk_at dksX6_checkRange_0 10 rfl rfl)
theorem dX6_checkRange_11 : decode cX6_checkRange 11 = .ok (.iload_n 2, 1) := dk_28 (dk_at dksX6_checkRange_0 11 rfl rfl)
theorem dX6_checkRange_12 : decode cX6_checkRange 12 = .ok (.isub, 1) := dk_100 (dk_at dksX6_checkRange_0 12 rfl rfl)
theorem dX6_checkRange_13 : decode cX6_checkRange 13 = .ok (.if_icmp .le 13, 3) := dk_164 0 13 (dk_at dksX6_checkRange_0 13 rfl rfl)
theorem dX6_checkRange_16 : decode cX6_checkRange 16 = .ok (.new 26, 3) := dk_187 0 26 (dk_at dksX6_checkRange_0 16 rfl rfl)
theorem dX6_checkRange_19 : decode cX6_checkRange 19 = .ok (.dup, 1) := dk_89 (dk_at dksX6_checkRange_0 19 rfl rfl)
theorem dX6_checkRange_20 : decode cX6_checkRange 20 = .ok (.ldc 28, 2) := dk_18 28 (dk_at dksX6_checkRange_0 20 rfl rfl)
theorem dX6_checkRange_22 : decode cX6_checkRange 22 = .ok (.invokespecial 30, 3) := dk_183 0 30 (dk_at dksX6_checkRange_1 0 rfl rfl)
theorem dX6_checkRange_25 : decode cX6_checkRange 25 = .ok (.athrow, 1) := dk_191 (dk_at dksX6_checkRange_1 3 rfl rfl)
theorem dX6_checkRange_26 : decode cX6_checkRange 26 = .ok (.return_, 1) := dk_177 (dk_at dksX6_checkRange_1 4 rfl rfl)
abbrev cX6_checkLength : ByteArray := prog_12_method_5_code
def yX6_checkLength : MethodName := ⟨RX6, "checkLength", "(I)V"⟩
def dkwX6_checkLength_0 : List UInt8 := [26, 156, 0, 13, 187, 0, 33, 89, 18, 35, 183, 0, 37, 191, 177]
abbrev dktX6_checkLength_0 : List UInt8 := dkwX6_checkLength_0 ++ []
theorem dksX6_checkLength_0 : cX6_checkLength.data.toList.drop 0 = dktX6_checkLength_0 := by decide +kernel
theorem dX6_checkLength_0 : decode cX6_checkLength 0 = .ok (.iload_n 0, 1) := dk_26 (dk_at dksX6_checkLength_0 0 rfl rfl)
theorem dX6_checkLength_1 : decode cX6_checkLength 1 = .ok (.ifCond .ge 13, 3) := dk_156 0 13 (dk_at dksX6_checkLength_0 1 rfl rfl)
theorem dX6_checkLength_4 : decode cX6_checkLength 4 = .ok (.new 33, 3) := dk_187 0 33 (dk_at dksX6_checkLength_0 4 rfl rfl)
theorem dX6_checkLength_7 : decode cX6_checkLength 7 = .ok (.dup, 1) := dk_89 (dk_at dksX6_checkLength_0 7 rfl rfl)
theorem dX6_checkLength_8 : decode cX6_checkLength 8 = .ok (.ldc 35, 2) := dk_18 35 (dk_at dksX6_checkLength_0 8 rfl rfl)
theorem dX6_checkLength_10 : decode cX6_checkLength 10 = .ok (.invokespecial 37, 3) := dk_183 0 37 (dk_at dksX6_checkLength_0 10 rfl rfl)
theorem dX6_checkLength_13 : decode cX6_checkLength 13 = .ok (.athrow, 1) := dk_191 (dk_at dksX6_checkLength_0 13 rfl rfl)
theorem dX6_checkLength_14 : decode cX6_checkLength 14 = .ok (.return_, 1) := dk_177 (dk_at dksX6_checkLength_0 14 rfl rfl)
abbrev cX6_readInt : ByteArray := prog_12_method_8_code
def yX6_readInt : MethodName := ⟨RX6, "readInt", "([BI)I"⟩
def dkwX6_readInt_0 : List UInt8 := [42, 27, 184, 0, 38, 172]
abbrev dktX6_readInt_0 : List UInt8 := dkwX6_readInt_0 ++ []
theorem dksX6_readInt_0 : cX6_readInt.data.toList.drop 0 = dktX6_readInt_0 := by decide +kernel
theorem dX6_readInt_0 : decode cX6_readInt 0 = .ok (.aload_n 0, 1) := dk_42 (dk_at dksX6_readInt_0 0 rfl rfl)
theorem dX6_readInt_1 : decode cX6_readInt 1 = .ok (.iload_n 1, 1) := dk_27 (dk_at dksX6_readInt_0 1 rfl rfl)
theorem dX6_readInt_2 : decode cX6_readInt 2 = .ok (.invokestatic 38, 3) := dk_184 0 38 (dk_at dksX6_readInt_0 2 rfl rfl)
theorem dX6_readInt_5 : decode cX6_readInt 5 = .ok (.ireturn, 1) := dk_172 (dk_at dksX6_readInt_0 5 rfl rfl)
abbrev cX6_readIntLE : ByteArray := prog_12_method_7_code
def yX6_readIntLE : MethodName := ⟨RX6, "readIntLE", "([BI)I"⟩
def dkwX6_readIntLE_1 : List UInt8 := [51, 17, 0, 255, 126, 16, 16, 120, 128, 42, 27, 6, 96, 51, 17, 0, 255, 126, 16, 24, 120, 128, 172]
abbrev dktX6_readIntLE_1 : List UInt8 := dkwX6_readIntLE_1 ++ []
def dkwX6_readIntLE_0 : List UInt8 := [42, 27, 51, 17, 0, 255, 126, 42, 27, 4, 96, 51, 17, 0, 255, 126, 16, 8, 120, 128, 42, 27, 5, 96]
abbrev dktX6_readIntLE_0 : List UInt8 := dkwX6_readIntLE_0 ++ dktX6_readIntLE_1
theorem dksX6_readIntLE_0 : cX6_readIntLE.data.toList.drop 0 = dktX6_readIntLE_0 := by decide +kernel
theorem dksX6_readIntLE_1 : cX6_readIntLE.data.toList.drop 24 = dktX6_readIntLE_1 := dk_seg dksX6_readIntLE_0 24 rfl rfl
theorem dX6_readIntLE_0 : decode cX6_readIntLE 0 = .ok (.aload_n 0, 1) := dk_42 (dk_at dksX6_readIntLE_0 0 rfl rfl)
theorem dX6_readIntLE_1 : decode cX6_readIntLE 1 = .ok (.iload_n 1, 1) := dk_27 (dk_at dksX6_readIntLE_0 1 rfl rfl)
theorem dX6_readIntLE_2 : decode cX6_readIntLE 2 = .ok (.baload, 1) := dk_51 (dk_at dksX6_readIntLE_0 2 rfl rfl)
theorem dX6_readIntLE_3 : decode cX6_readIntLE 3 = .ok (.sipush 255, 3) := dk_17 0 255 (dk_at dksX6_readIntLE_0 3 rfl rfl)
theorem dX6_readIntLE_6 : decode cX6_readIntLE 6 = .ok (.iand, 1) := dk_126 (dk_at dksX6_readIntLE_0 6 rfl rfl)
theorem dX6_readIntLE_7 : decode cX6_readIntLE 7 = .ok (.aload_n 0, 1) := dk_42 (dk_at dksX6_readIntLE_0 7 rfl rfl)
theorem dX6_readIntLE_8 : decode cX6_readIntLE 8 = .ok (.iload_n 1, 1) := dk_27 (dk_at dksX6_readIntLE_0 8 rfl rfl)
theorem dX6_readIntLE_9 : decode cX6_readIntLE 9 = .ok (.iconst 1, 1) := dk_4 (dk_at dksX6_readIntLE_0 9 rfl rfl)
theorem dX6_readIntLE_10 : decode cX6_readIntLE 10 = .ok (.iadd, 1) := dk_96 (dk_at dksX6_readIntLE_0 10 rfl rfl)
theorem dX6_readIntLE_11 : decode cX6_readIntLE 11 = .ok (.baload, 1) := dk_51 (dk_at dksX6_readIntLE_0 11 rfl rfl)
theorem dX6_readIntLE_12 : decode cX6_readIntLE 12 = .ok (.sipush 255, 3) := dk_17 0 255 (dk_at dksX6_readIntLE_0 12 rfl rfl)
theorem dX6_readIntLE_15 : decode cX6_readIntLE 15 = .ok (.iand, 1) := dk_126 (dk_at dksX6_readIntLE_0 15 rfl rfl)
theorem dX6_readIntLE_16 : decode cX6_readIntLE 16 = .ok (.bipush 8, 2) := dk_16 8 (dk_at dksX6_readIntLE_0 16 rfl rfl)
theorem dX6_readIntLE_18 : decode cX6_readIntLE 18 = .ok (.ishl, 1) := dk_120 (dk_at dksX6_readIntLE_0 18 rfl rfl)
theorem dX6_readIntLE_19 : decode cX6_readIntLE 19 = .ok (.ior, 1) := dk_128 (dk_at dksX6_readIntLE_0 19 rfl rfl)
theorem dX6_readIntLE_20 : decode cX6_readIntLE 20 = .ok (.aload_n 0, 1) := dk_42 (dk_at dksX6_readIntLE_0 20 rfl rfl)
theorem dX6_readIntLE_21 : decode cX6_readIntLE 21 = .ok (.iload_n 1, 1) := dk_27 (dk_at dksX6_readIntLE_0 21 rfl rfl)
theorem dX6_readIntLE_22 : decode cX6_readIntLE 22 = .ok (.iconst 2, 1) := dk_5 (dk_at dksX6_readIntLE_0 22 rfl rfl)
theorem dX6_readIntLE_23 : decode cX6_readIntLE 23 = .ok (.iadd, 1) := dk_96 (dk_at dksX6_readIntLE_0 23 rfl rfl)
theorem dX6_readIntLE_24 : decode cX6_readIntLE 24 = .ok (.baload, 1) := dk_51 (dk_at dksX6_readIntLE_1 0 rfl rfl)
theorem dX6_readIntLE_25 : decode cX6_readIntLE 25 = .ok (.sipush 255, 3) := dk_17 0 255 (dk_at dksX6_readIntLE_1 1 rfl rfl)
theorem dX6_readIntLE_28 : decode cX6_readIntLE 28 = .ok (.iand, 1) := dk_126 (dk_at dksX6_readIntLE_1 4 rfl rfl)
theorem dX6_readIntLE_29 : decode cX6_readIntLE 29 = .ok (.bipush 16, 2) := dk_16 16 (dk_at dksX6_readIntLE_1 5 rfl rfl)
theorem dX6_readIntLE_31 : decode cX6_readIntLE 31 = .ok (.ishl, 1) := dk_120 (dk_at dksX6_readIntLE_1 7 rfl rfl)
theorem dX6_readIntLE_32 : decode cX6_readIntLE 32 = .ok (.ior, 1) := dk_128 (dk_at dksX6_readIntLE_1 8 rfl rfl)
theorem dX6_readIntLE_33 : decode cX6_readIntLE 33 = .ok (.aload_n 0, 1) := dk_42 (dk_at dksX6_readIntLE_1 9 rfl rfl)
theorem dX6_readIntLE_34 : decode cX6_readIntLE 34 = .ok (.iload_n 1, 1) := dk_27 (dk_at dksX6_readIntLE_1 10 rfl rfl)
theorem dX6_readIntLE_35 : decode cX6_readIntLE 35 = .ok (.iconst 3, 1) := dk_6 (dk_at dksX6_readIntLE_1 11 rfl rfl)
theorem dX6_readIntLE_36 : decode cX6_readIntLE 36 = .ok (.iadd, 1) := dk_96 (dk_at dksX6_readIntLE_1 12 rfl rfl)
theorem dX6_readIntLE_37 : decode cX6_readIntLE 37 = .ok (.baload, 1) := dk_51 (dk_at dksX6_readIntLE_1 13 rfl rfl)
theorem dX6_readIntLE_38 : decode cX6_readIntLE 38 = .ok (.sipush 255, 3) := dk_17 0 255 (dk_at dksX6_readIntLE_1 14 rfl rfl)
theorem dX6_readIntLE_41 : decode cX6_readIntLE 41 = .ok (.iand, 1) := dk_126 (dk_at dksX6_readIntLE_1 17 rfl rfl)
theorem dX6_readIntLE_42 : decode cX6_readIntLE 42 = .ok (.bipush 24, 2) := dk_16 24 (dk_at dksX6_readIntLE_1 18 rfl rfl)
theorem dX6_readIntLE_44 : decode cX6_readIntLE 44 = .ok (.ishl, 1) := dk_120 (dk_at dksX6_readIntLE_1 20 rfl rfl)
theorem dX6_readIntLE_45 : decode cX6_readIntLE 45 = .ok (.ior, 1) := dk_128 (dk_at dksX6_readIntLE_1 21 rfl rfl)
theorem dX6_readIntLE_46 : decode cX6_readIntLE 46 = .ok (.ireturn, 1) := dk_172 (dk_at dksX6_readIntLE_1 22 rfl rfl)
abbrev cX6_readShort : ByteArray := prog_12_method_15_code
def yX6_readShort : MethodName := ⟨RX6, "readShort", "([SI)I"⟩
def dkwX6_readShort_0 : List UInt8 := [42, 27, 53, 18, 42, 126, 172]
abbrev dktX6_readShort_0 : List UInt8 := dkwX6_readShort_0 ++ []
theorem dksX6_readShort_0 : cX6_readShort.data.toList.drop 0 = dktX6_readShort_0 := by decide +kernel
theorem dX6_readShort_0 : decode cX6_readShort 0 = .ok (.aload_n 0, 1) := dk_42 (dk_at dksX6_readShort_0 0 rfl rfl)
theorem dX6_readShort_1 : decode cX6_readShort 1 = .ok (.iload_n 1, 1) := dk_27 (dk_at dksX6_readShort_0 1 rfl rfl)
theorem dX6_readShort_2 : decode cX6_readShort 2 = .ok (.saload, 1) := dk_53 (dk_at dksX6_readShort_0 2 rfl rfl)
theorem dX6_readShort_3 : decode cX6_readShort 3 = .ok (.ldc 42, 2) := dk_18 42 (dk_at dksX6_readShort_0 3 rfl rfl)
theorem dX6_readShort_5 : decode cX6_readShort 5 = .ok (.iand, 1) := dk_126 (dk_at dksX6_readShort_0 5 rfl rfl)
theorem dX6_readShort_6 : decode cX6_readShort 6 = .ok (.ireturn, 1) := dk_172 (dk_at dksX6_readShort_0 6 rfl rfl)
abbrev cX6_writeShort : ByteArray := prog_12_method_13_code
def yX6_writeShort : MethodName := ⟨RX6, "writeShort", "([SII)V"⟩
def dkwX6_writeShort_0 : List UInt8 := [42, 27, 28, 147, 86, 177]
abbrev dktX6_writeShort_0 : List UInt8 := dkwX6_writeShort_0 ++ []
theorem dksX6_writeShort_0 : cX6_writeShort.data.toList.drop 0 = dktX6_writeShort_0 := by decide +kernel
theorem dX6_writeShort_0 : decode cX6_writeShort 0 = .ok (.aload_n 0, 1) := dk_42 (dk_at dksX6_writeShort_0 0 rfl rfl)
theorem dX6_writeShort_1 : decode cX6_writeShort 1 = .ok (.iload_n 1, 1) := dk_27 (dk_at dksX6_writeShort_0 1 rfl rfl)
theorem dX6_writeShort_2 : decode cX6_writeShort 2 = .ok (.iload_n 2, 1) := dk_28 (dk_at dksX6_writeShort_0 2 rfl rfl)
theorem dX6_writeShort_3 : decode cX6_writeShort 3 = .ok (.i2s, 1) := dk_147 (dk_at dksX6_writeShort_0 3 rfl rfl)
theorem dX6_writeShort_4 : decode cX6_writeShort 4 = .ok (.sastore, 1) := dk_86 (dk_at dksX6_writeShort_0 4 rfl rfl)
theorem dX6_writeShort_5 : decode cX6_writeShort 5 = .ok (.return_, 1) := dk_177 (dk_at dksX6_writeShort_0 5 rfl rfl)
abbrev cX6_writeByte : ByteArray := prog_12_method_12_code
def yX6_writeByte : MethodName := ⟨RX6, "writeByte", "([BII)V"⟩
def dkwX6_writeByte_0 : List UInt8 := [42, 27, 28, 145, 84, 177]
abbrev dktX6_writeByte_0 : List UInt8 := dkwX6_writeByte_0 ++ []
theorem dksX6_writeByte_0 : cX6_writeByte.data.toList.drop 0 = dktX6_writeByte_0 := by decide +kernel
theorem dX6_writeByte_0 : decode cX6_writeByte 0 = .ok (.aload_n 0, 1) := dk_42 (dk_at dksX6_writeByte_0 0 rfl rfl)
theorem dX6_writeByte_1 : decode cX6_writeByte 1 = .ok (.iload_n 1, 1) := dk_27 (dk_at dksX6_writeByte_0 1 rfl rfl)
theorem dX6_writeByte_2 : decode cX6_writeByte 2 = .ok (.iload_n 2, 1) := dk_28 (dk_at dksX6_writeByte_0 2 rfl rfl)
theorem dX6_writeByte_3 : decode cX6_writeByte 3 = .ok (.i2b, 1) := dk_145 (dk_at dksX6_writeByte_0 3 rfl rfl)
theorem dX6_writeByte_4 : decode cX6_writeByte 4 = .ok (.bastore, 1) := dk_84 (dk_at dksX6_writeByte_0 4 rfl rfl)
theorem dX6_writeByte_5 : decode cX6_writeByte 5 = .ok (.return_, 1) := dk_177 (dk_at dksX6_writeByte_0 5 rfl rfl)
abbrev cX6_writeShortLE : ByteArray := prog_12_method_9_code
def yX6_writeShortLE : MethodName := ⟨RX6, "writeShortLE", "([BII)V"⟩
def dkwX6_writeShortLE_0 : List UInt8 := [42, 27, 132, 1, 1, 28, 145, 84, 42, 27, 132, 1, 1, 28, 16, 8, 124, 145, 84, 177]
abbrev dktX6_writeShortLE_0 : List UInt8 := dkwX6_writeShortLE_0 ++ []
theorem dksX6_writeShortLE_0 : cX6_writeShortLE.data.toList.drop 0 = dktX6_writeShortLE_0 := by decide +kernel
theorem dX6_writeShortLE_0 : decode cX6_writeShortLE 0 = .ok (.aload_n 0, 1) := dk_42 (dk_at dksX6_writeShortLE_0 0 rfl rfl)
theorem dX6_writeShortLE_1 : decode cX6_writeShortLE 1 = .ok (.iload_n 1, 1) := dk_27 (dk_at dksX6_writeShortLE_0 1 rfl rfl)
theorem dX6_writeShortLE_2 : decode cX6_writeShortLE 2 = .ok (.iinc 1 1, 3) := dk_132 1 1 (dk_at dksX6_writeShortLE_0 2 rfl rfl)
theorem dX6_writeShortLE_5 : decode cX6_writeShortLE 5 = .ok (.iload_n 2, 1) := dk_28 (dk_at dksX6_writeShortLE_0 5 rfl rfl)
theorem dX6_writeShortLE_6 : decode cX6_writeShortLE 6 = .ok (.i2b, 1) := dk_145 (dk_at dksX6_writeShortLE_0 6 rfl rfl)
theorem dX6_writeShortLE_7 : decode cX6_writeShortLE 7 = .ok (.bastore, 1) := dk_84 (dk_at dksX6_writeShortLE_0 7 rfl rfl)
theorem dX6_writeShortLE_8 : decode cX6_writeShortLE 8 = .ok (.aload_n 0, 1) := dk_42 (dk_at dksX6_writeShortLE_0 8 rfl rfl)
theorem dX6_writeShortLE_9 : decode cX6_writeShortLE 9 = .ok (.iload_n 1, 1) := dk_27 (dk_at dksX6_writeShortLE_0 9 rfl rfl)
theorem dX6_writeShortLE_10 : decode cX6_writeShortLE 10 = .ok (.iinc 1 1, 3) := dk_132 1 1 (dk_at dksX6_writeShortLE_0 10 rfl rfl)
theorem dX6_writeShortLE_13 : decode cX6_writeShortLE 13 = .ok (.iload_n 2, 1) := dk_28 (dk_at dksX6_writeShortLE_0 13 rfl rfl)
theorem dX6_writeShortLE_14 : decode cX6_writeShortLE 14 = .ok (.bipush 8, 2) := dk_16 8 (dk_at dksX6_writeShortLE_0 14 rfl rfl)
theorem dX6_writeShortLE_16 : decode cX6_writeShortLE 16 = .ok (.iushr, 1) := dk_124 (dk_at dksX6_writeShortLE_0 16 rfl rfl)
theorem dX6_writeShortLE_17 : decode cX6_writeShortLE 17 = .ok (.i2b, 1) := dk_145 (dk_at dksX6_writeShortLE_0 17 rfl rfl)
theorem dX6_writeShortLE_18 : decode cX6_writeShortLE 18 = .ok (.bastore, 1) := dk_84 (dk_at dksX6_writeShortLE_0 18 rfl rfl)
theorem dX6_writeShortLE_19 : decode cX6_writeShortLE 19 = .ok (.return_, 1) := dk_177 (dk_at dksX6_writeShortLE_0 19 rfl rfl)
abbrev cX6_readByte : ByteArray := prog_12_method_6_code
def yX6_readByte : MethodName := ⟨RX6, "readByte", "([BI)B"⟩
def dkwX6_readByte_0 : List UInt8 := [42, 27, 51, 172]
abbrev dktX6_readByte_0 : List UInt8 := dkwX6_readByte_0 ++ []
theorem dksX6_readByte_0 : cX6_readByte.data.toList.drop 0 = dktX6_readByte_0 := by decide +kernel
theorem dX6_readByte_0 : decode cX6_readByte 0 = .ok (.aload_n 0, 1) := dk_42 (dk_at dksX6_readByte_0 0 rfl rfl)
theorem dX6_readByte_1 : decode cX6_readByte 1 = .ok (.iload_n 1, 1) := dk_27 (dk_at dksX6_readByte_0 1 rfl rfl)
theorem dX6_readByte_2 : decode cX6_readByte 2 = .ok (.baload, 1) := dk_51 (dk_at dksX6_readByte_0 2 rfl rfl)
theorem dX6_readByte_3 : decode cX6_readByte 3 = .ok (.ireturn, 1) := dk_172 (dk_at dksX6_readByte_0 3 rfl rfl)
abbrev cX6_readInt_2 : ByteArray := prog_12_method_11_code
def yX6_readInt_2 : MethodName := ⟨RX6, "readInt", "([II)I"⟩
def dkwX6_readInt_2_0 : List UInt8 := [42, 27, 46, 172]
abbrev dktX6_readInt_2_0 : List UInt8 := dkwX6_readInt_2_0 ++ []
theorem dksX6_readInt_2_0 : cX6_readInt_2.data.toList.drop 0 = dktX6_readInt_2_0 := by decide +kernel
theorem dX6_readInt_2_0 : decode cX6_readInt_2 0 = .ok (.aload_n 0, 1) := dk_42 (dk_at dksX6_readInt_2_0 0 rfl rfl)
theorem dX6_readInt_2_1 : decode cX6_readInt_2 1 = .ok (.iload_n 1, 1) := dk_27 (dk_at dksX6_readInt_2_0 1 rfl rfl)
theorem dX6_readInt_2_2 : decode cX6_readInt_2 2 = .ok (.iaload, 1) := dk_46 (dk_at dksX6_readInt_2_0 2 rfl rfl)
theorem dX6_readInt_2_3 : decode cX6_readInt_2 3 = .ok (.ireturn, 1) := dk_172 (dk_at dksX6_readInt_2_0 3 rfl rfl)
abbrev cX6_writeInt : ByteArray := prog_12_method_10_code
def yX6_writeInt : MethodName := ⟨RX6, "writeInt", "([III)V"⟩
def dkwX6_writeInt_0 : List UInt8 := [42, 27, 28, 79, 177]
abbrev dktX6_writeInt_0 : List UInt8 := dkwX6_writeInt_0 ++ []
theorem dksX6_writeInt_0 : cX6_writeInt.data.toList.drop 0 = dktX6_writeInt_0 := by decide +kernel
theorem dX6_writeInt_0 : decode cX6_writeInt 0 = .ok (.aload_n 0, 1) := dk_42 (dk_at dksX6_writeInt_0 0 rfl rfl)
theorem dX6_writeInt_1 : decode cX6_writeInt 1 = .ok (.iload_n 1, 1) := dk_27 (dk_at dksX6_writeInt_0 1 rfl rfl)
theorem dX6_writeInt_2 : decode cX6_writeInt 2 = .ok (.iload_n 2, 1) := dk_28 (dk_at dksX6_writeInt_0 2 rfl rfl)
theorem dX6_writeInt_3 : decode cX6_writeInt 3 = .ok (.iastore, 1) := dk_79 (dk_at dksX6_writeInt_0 3 rfl rfl)
theorem dX6_writeInt_4 : decode cX6_writeInt 4 = .ok (.return_, 1) := dk_177 (dk_at dksX6_writeInt_0 4 rfl rfl)
abbrev cX6_readShortLE : ByteArray := prog_12_method_14_code
def yX6_readShortLE : MethodName := ⟨RX6, "readShortLE", "([BI)I"⟩
def dkwX6_readShortLE_0 : List UInt8 := [42, 27, 51, 17, 0, 255, 126, 42, 27, 4, 96, 51, 17, 0, 255, 126, 16, 8, 120, 128, 172]
abbrev dktX6_readShortLE_0 : List UInt8 := dkwX6_readShortLE_0 ++ []
theorem dksX6_readShortLE_0 : cX6_readShortLE.data.toList.drop 0 = dktX6_readShortLE_0 := by decide +kernel
theorem dX6_readShortLE_0 : decode cX6_readShortLE 0 = .ok (.aload_n 0, 1) := dk_42 (dk_at dksX6_readShortLE_0 0 rfl rfl)
theorem dX6_readShortLE_1 : decode cX6_readShortLE 1 = .ok (.iload_n 1, 1) := dk_27 (dk_at dksX6_readShortLE_0 1 rfl rfl)
theorem dX6_readShortLE_2 : decode cX6_readShortLE 2 = .ok (.baload, 1) := dk_51 (dk_at dksX6_readShortLE_0 2 rfl rfl)
theorem dX6_readShortLE_3 : decode cX6_readShortLE 3 = .ok (.sipush 255, 3) := dk_17 0 255 (dk_at dksX6_readShortLE_0 3 rfl rfl)
theorem dX6_readShortLE_6 : decode cX6_readShortLE 6 = .ok (.iand, 1) := dk_126 (dk_at dksX6_readShortLE_0 6 rfl rfl)
theorem dX6_readShortLE_7 : decode cX6_readShortLE 7 = .ok (.aload_n 0, 1) := dk_42 (dk_at dksX6_readShortLE_0 7 rfl rfl)
theorem dX6_readShortLE_8 : decode cX6_readShortLE 8 = .ok (.iload_n 1, 1) := dk_27 (dk_at dksX6_readShortLE_0 8 rfl rfl)
theorem dX6_readShortLE_9 : decode cX6_readShortLE 9 = .ok (.iconst 1, 1) := dk_4 (dk_at dksX6_readShortLE_0 9 rfl rfl)
theorem dX6_readShortLE_10 : decode cX6_readShortLE 10 = .ok (.iadd, 1) := dk_96 (dk_at dksX6_readShortLE_0 10 rfl rfl)
theorem dX6_readShortLE_11 : decode cX6_readShortLE 11 = .ok (.baload, 1) := dk_51 (dk_at dksX6_readShortLE_0 11 rfl rfl)
theorem dX6_readShortLE_12 : decode cX6_readShortLE 12 = .ok (.sipush 255, 3) := dk_17 0 255 (dk_at dksX6_readShortLE_0 12 rfl rfl)
theorem dX6_readShortLE_15 : decode cX6_readShortLE 15 = .ok (.iand, 1) := dk_126 (dk_at dksX6_readShortLE_0 15 rfl rfl)
theorem dX6_readShortLE_16 : decode cX6_readShortLE 16 = .ok (.bipush 8, 2) := dk_16 8 (dk_at dksX6_readShortLE_0 16 rfl rfl)
theorem dX6_readShortLE_18 : decode cX6_readShortLE 18 = .ok (.ishl, 1) := dk_120 (dk_at dksX6_readShortLE_0 18 rfl rfl)
theorem dX6_readShortLE_19 : decode cX6_readShortLE 19 = .ok (.ior, 1) := dk_128 (dk_at dksX6_readShortLE_0 19 rfl rfl)
theorem dX6_readShortLE_20 : decode cX6_readShortLE 20 = .ok (.ireturn, 1) := dk_172 (dk_at dksX6_readShortLE_0 20 rfl rfl)
theorem q10 : (Jvm.Cond.initialized "SafeUtils") ∈ lw_all := lw_g (lw_at lw_m1 8 rfl) rfl
theorem q119 : (Jvm.Cond.static ({ cls := "SafeUtils", name := "checkRange", desc := "([BII)V" } : Jvm.MethodName)) ∈ lw_all := lw_g (lw_at lw_m1 117 rfl) rfl
theorem q120 : (Jvm.Cond.code ({ cls := "SafeUtils", name := "checkRange", desc := "([BII)V" } : Jvm.MethodName) prog_12_method_4_code (3 : Nat) (Option.none : Option Jvm.ClassFile.FieldType)) ∈ lw_all := lw_g (lw_at lw_m1 118 rfl) rfl
theorem q121 : (Jvm.Cond.methodLink "SafeUtils" (22 : Nat) ({ cls := "SafeUtils", name := "checkLength", desc := "(I)V" } : Jvm.MethodName)) ∈ lw_all := lw_g (lw_at lw_m1 119 rfl) rfl
theorem q122 : (Jvm.Cond.static ({ cls := "SafeUtils", name := "checkLength", desc := "(I)V" } : Jvm.MethodName)) ∈ lw_all := lw_g (lw_at lw_m1 120 rfl) rfl
theorem q123 : (Jvm.Cond.code ({ cls := "SafeUtils", name := "checkLength", desc := "(I)V" } : Jvm.MethodName) prog_12_method_5_code (1 : Nat) (Option.none : Option Jvm.ClassFile.FieldType)) ∈ lw_all := lw_g (lw_at lw_m1 121 rfl) rfl
theorem q124 : (Jvm.Cond.classLink "SafeUtils" (33 : Nat) "java/lang/IllegalArgumentException") ∈ lw_all := lw_g (lw_at lw_m1 122 rfl) rfl
theorem q165 : (Jvm.Cond.stringRef "SafeUtils" (35 : Nat) "lengths must be >= 0") ∈ lw_tbl := lw_at lw_m1 163 rfl
theorem q166 : (Jvm.Cond.methodLink "SafeUtils" (37 : Nat) ({ cls := "java/lang/IllegalArgumentException", name := "<init>", desc := "(Ljava/lang/String;)V" } : Jvm.MethodName)) ∈ lw_all := lw_g (lw_at lw_m1 164 rfl) rfl
theorem q191 : (Jvm.Cond.classLink "SafeUtils" (26 : Nat) "java/lang/ArrayIndexOutOfBoundsException") ∈ lw_all := lw_g (lw_at lw_m1 189 rfl) rfl
theorem q202 : (Jvm.Cond.stringRef "SafeUtils" (28 : Nat) "left out") ∈ lw_tbl := lw_at lw_m1 200 rfl
theorem q203 : (Jvm.Cond.methodLink "SafeUtils" (30 : Nat) ({ cls := "java/lang/ArrayIndexOutOfBoundsException", name := "<init>", desc := "(Ljava/lang/String;)V" } : Jvm.MethodName)) ∈ lw_all := lw_g (lw_at lw_m1 201 rfl) rfl
theorem q219 : (Jvm.Cond.static ({ cls := "SafeUtils", name := "readInt", desc := "([BI)I" } : Jvm.MethodName)) ∈ lw_all := lw_g (lw_at lw_m1 217 rfl) rfl
theorem q220 : (Jvm.Cond.code ({ cls := "SafeUtils", name := "readInt", desc := "([BI)I" } : Jvm.MethodName) prog_12_method_8_code (2 : Nat) (Option.some Jvm.ClassFile.FieldType.int)) ∈ lw_all := lw_g (lw_at lw_m1 218 rfl) rfl
theorem q221 : (Jvm.Cond.methodLink "SafeUtils" (38 : Nat) ({ cls := "SafeUtils", name := "readIntLE", desc := "([BI)I" } : Jvm.MethodName)) ∈ lw_all := lw_g (lw_at lw_m1 219 rfl) rfl
theorem q222 : (Jvm.Cond.static ({ cls := "SafeUtils", name := "readIntLE", desc := "([BI)I" } : Jvm.MethodName)) ∈ lw_all := lw_g (lw_at lw_m1 220 rfl) rfl
theorem q223 : (Jvm.Cond.code ({ cls := "SafeUtils", name := "readIntLE", desc := "([BI)I" } : Jvm.MethodName) prog_12_method_7_code (2 : Nat) (Option.some Jvm.ClassFile.FieldType.int)) ∈ lw_all := lw_g (lw_at lw_m1 221 rfl) rfl
theorem q229 : (Jvm.Cond.static ({ cls := "SafeUtils", name := "readShort", desc := "([SI)I" } : Jvm.MethodName)) ∈ lw_all := lw_g (lw_at lw_m1 227 rfl) rfl
theorem q230 : (Jvm.Cond.code ({ cls := "SafeUtils", name := "readShort", desc := "([SI)I" } : Jvm.MethodName) prog_12_method_15_code (2 : Nat) (Option.some Jvm.ClassFile.FieldType.int)) ∈ lw_all := lw_g (lw_at lw_m1 228 rfl) rfl
theorem q231 : (Jvm.Cond.constant "SafeUtils" (42 : Nat) (65535 : Int32)) ∈ lw_all := lw_g (lw_at lw_m1 229 rfl) rfl
theorem q233 : (Jvm.Cond.static ({ cls := "SafeUtils", name := "writeShort", desc := "([SII)V" } : Jvm.MethodName)) ∈ lw_all := lw_g (lw_at lw_m1 231 rfl) rfl
theorem q234 : (Jvm.Cond.code ({ cls := "SafeUtils", name := "writeShort", desc := "([SII)V" } : Jvm.MethodName) prog_12_method_13_code (3 : Nat) (Option.none : Option Jvm.ClassFile.FieldType)) ∈ lw_all := lw_g (lw_at lw_m1 232 rfl) rfl
theorem q273 : (Jvm.Cond.static ({ cls := "SafeUtils", name := "writeByte", desc := "([BII)V" } : Jvm.MethodName)) ∈ lw_all := lw_g (lw_at lw_m2 31 rfl) rfl
theorem q274 : (Jvm.Cond.code ({ cls := "SafeUtils", name := "writeByte", desc := "([BII)V" } : Jvm.MethodName) prog_12_method_12_code (3 : Nat) (Option.none : Option Jvm.ClassFile.FieldType)) ∈ lw_all := lw_g (lw_at lw_m2 32 rfl) rfl
theorem q294 : (Jvm.Cond.static ({ cls := "SafeUtils", name := "writeShortLE", desc := "([BII)V" } : Jvm.MethodName)) ∈ lw_all := lw_g (lw_at lw_m2 52 rfl) rfl
theorem q295 : (Jvm.Cond.code ({ cls := "SafeUtils", name := "writeShortLE", desc := "([BII)V" } : Jvm.MethodName) prog_12_method_9_code (3 : Nat) (Option.none : Option Jvm.ClassFile.FieldType)) ∈ lw_all := lw_g (lw_at lw_m2 53 rfl) rfl
theorem q301 : (Jvm.Cond.static ({ cls := "SafeUtils", name := "readByte", desc := "([BI)B" } : Jvm.MethodName)) ∈ lw_all := lw_g (lw_at lw_m2 59 rfl) rfl
theorem q302 : (Jvm.Cond.code ({ cls := "SafeUtils", name := "readByte", desc := "([BI)B" } : Jvm.MethodName) prog_12_method_6_code (2 : Nat) (Option.some Jvm.ClassFile.FieldType.byte)) ∈ lw_all := lw_g (lw_at lw_m2 60 rfl) rfl
theorem q329 : (Jvm.Cond.static ({ cls := "SafeUtils", name := "readInt", desc := "([II)I" } : Jvm.MethodName)) ∈ lw_all := lw_g (lw_at lw_m2 87 rfl) rfl
theorem q330 : (Jvm.Cond.code ({ cls := "SafeUtils", name := "readInt", desc := "([II)I" } : Jvm.MethodName) prog_12_method_11_code (2 : Nat) (Option.some Jvm.ClassFile.FieldType.int)) ∈ lw_all := lw_g (lw_at lw_m2 88 rfl) rfl
theorem q332 : (Jvm.Cond.static ({ cls := "SafeUtils", name := "writeInt", desc := "([III)V" } : Jvm.MethodName)) ∈ lw_all := lw_g (lw_at lw_m2 90 rfl) rfl
theorem q333 : (Jvm.Cond.code ({ cls := "SafeUtils", name := "writeInt", desc := "([III)V" } : Jvm.MethodName) prog_12_method_10_code (3 : Nat) (Option.none : Option Jvm.ClassFile.FieldType)) ∈ lw_all := lw_g (lw_at lw_m2 91 rfl) rfl
theorem q360 : (Jvm.Cond.static ({ cls := "SafeUtils", name := "readShortLE", desc := "([BI)I" } : Jvm.MethodName)) ∈ lw_all := lw_g (lw_at lw_m2 118 rfl) rfl
theorem q361 : (Jvm.Cond.code ({ cls := "SafeUtils", name := "readShortLE", desc := "([BI)I" } : Jvm.MethodName) prog_12_method_14_code (2 : Nat) (Option.some Jvm.ClassFile.FieldType.int)) ∈ lw_all := lw_g (lw_at lw_m2 119 rfl) rfl
/-! LZ4Utils -/
set_option maxRecDepth 100000
def RX7 : String := "LZ4Utils"
abbrev cX7_hash64k : ByteArray := prog_11_method_8_code
def yX7_hash64k : MethodName := ⟨RX7, "hash64k", "(I)I"⟩
def dkwX7_hash64k_0 : List UInt8 := [26, 18, 41, 104, 16, 19, 124, 172]
abbrev dktX7_hash64k_0 : List UInt8 := dkwX7_hash64k_0 ++ []
theorem dksX7_hash64k_0 : cX7_hash64k.data.toList.drop 0 = dktX7_hash64k_0 := by decide +kernel
theorem dX7_hash64k_0 : decode cX7_hash64k 0 = .ok (.iload_n 0, 1) := dk_26 (dk_at dksX7_hash64k_0 0 rfl rfl)
theorem dX7_hash64k_1 : decode cX7_hash64k 1 = .ok (.ldc 41, 2) := dk_18 41 (dk_at dksX7_hash64k_0 1 rfl rfl)
theorem dX7_hash64k_3 : decode cX7_hash64k 3 = .ok (.imul, 1) := dk_104 (dk_at dksX7_hash64k_0 3 rfl rfl)
theorem dX7_hash64k_4 : decode cX7_hash64k 4 = .ok (.bipush 19, 2) := dk_16 19 (dk_at dksX7_hash64k_0 4 rfl rfl)
theorem dX7_hash64k_6 : decode cX7_hash64k 6 = .ok (.iushr, 1) := dk_124 (dk_at dksX7_hash64k_0 6 rfl rfl)
theorem dX7_hash64k_7 : decode cX7_hash64k 7 = .ok (.ireturn, 1) := dk_172 (dk_at dksX7_hash64k_0 7 rfl rfl)
abbrev cX7_sequenceLength : ByteArray := prog_11_method_6_code
def yX7_sequenceLength : MethodName := ⟨RX7, "sequenceLength", "(II)I"⟩
def dkwX7_sequenceLength_1 : List UInt8 := [20, 0, 32, 148, 158, 0, 13, 187, 0, 34, 89, 18, 36, 183, 0, 38, 191, 32, 136, 172]
abbrev dktX7_sequenceLength_1 : List UInt8 := dkwX7_sequenceLength_1 ++ []
def dkwX7_sequenceLength_0 : List UInt8 := [10, 26, 184, 0, 24, 133, 97, 26, 133, 97, 20, 0, 28, 97, 27, 184, 0, 24, 133, 97, 65, 32]
abbrev dktX7_sequenceLength_0 : List UInt8 := dkwX7_sequenceLength_0 ++ dktX7_sequenceLength_1
theorem dksX7_sequenceLength_0 : cX7_sequenceLength.data.toList.drop 0 = dktX7_sequenceLength_0 := by decide +kernel
theorem dksX7_sequenceLength_1 : cX7_sequenceLength.data.toList.drop 22 = dktX7_sequenceLength_1 := dk_seg dksX7_sequenceLength_0 22 rfl rfl
theorem dX7_sequenceLength_0 : decode cX7_sequenceLength 0 = .ok (.lconst 1, 1) := dk_10 (dk_at dksX7_sequenceLength_0 0 rfl rfl)
theorem dX7_sequenceLength_1 : decode cX7_sequenceLength 1 = .ok (.iload_n 0, 1) := dk_26 (dk_at dksX7_sequenceLength_0 1 rfl rfl)
theorem dX7_sequenceLength_2 : decode cX7_sequenceLength 2 = .ok (.invokestatic 24, 3) := dk_184 0 24 (dk_at dksX7_sequenceLength_0 2 rfl rfl)
theorem dX7_sequenceLength_5 : decode cX7_sequenceLength 5 = .ok (.i2l, 1) := dk_133 (dk_at dksX7_sequenceLength_0 5 rfl rfl)
theorem dX7_sequenceLength_6 : decode cX7_sequenceLength 6 = .ok (.ladd, 1) := dk_97 (dk_at dksX7_sequenceLength_0 6 rfl rfl)
theorem dX7_sequenceLength_7 : decode cX7_sequenceLength 7 = .ok (.iload_n 0, 1) := dk_26 (dk_at dksX7_sequenceLength_0 7 rfl rfl)
theorem dX7_sequenceLength_8 : decode cX7_sequenceLength 8 = .ok (.i2l, 1) := dk_133 (dk_at dksX7_sequenceLength_0 8 rfl rfl)
theorem dX7_sequenceLength_9 : decode cX7_sequenceLength 9 = .ok (.ladd, 1) := dk_97 (dk_at dksX7_sequenceLength_0 9 rfl rfl)
theorem dX7_sequenceLength_10 : decode cX7_sequenceLength 10 = .ok (.ldc2_w 28, 3) := dk_20 0 28 (dk_at dksX7_sequenceLength_0 10 rfl rfl)
theorem dX7_sequenceLength_13 : decode cX7_sequenceLength 13 = .ok (.ladd, 1) := dk_97 (dk_at dksX7_sequenceLength_0 13 rfl rfl)
theorem dX7_sequenceLength_14 : decode cX7_sequenceLength 14 = .ok (.iload_n 1, 1) := dk_27 (dk_at dksX7_sequenceLength_0 14 rfl rfl)
theorem dX7_sequenceLength_15 : decode cX7_sequenceLength 15 = .ok (.invokestatic 24, 3) := dk_184 0 24 (dk_at dksX7_sequenceLength_0 15 rfl rfl)
theorem dX7_sequenceLength_18 : decode cX7_sequenceLength 18 = .ok (.i2l, 1) := dk_133 (dk_at dksX7_sequenceLength_0 18 rfl rfl)
theorem dX7_sequenceLength_19 : decode cX7_sequenceLength 19 = .ok (.ladd, 1) := dk_97 (dk_at dksX7_sequenceLength_0 19 rfl rfl)
theorem dX7_sequenceLength_20 : decode cX7_sequenceLength 20 = .ok (.lstore_n 2, 1) := dk_65 (dk_at dksX7_sequenceLength_0 20 rfl rfl)
theorem dX7_sequenceLength_21 : decode cX7_sequenceLength 21 = .ok (.lload_n 2, 1) := dk_32 (dk_at dksX7_sequenceLength_0 21 rfl rfl)
theorem dX7_sequenceLength_22 : decode cX7_sequenceLength 22 = .ok (.ldc2_w 32, 3) := dk_20 0 32 (dk_at dksX7_sequenceLength_1 0 rfl rfl)
theorem dX7_sequenceLength_25 : decode cX7_sequenceLength 25 = .ok (.lcmp, 1) := dk_148 (dk_at dksX7_sequenceLength_1 3 rfl rfl)
theorem dX7_sequenceLength_26 : decode cX7_sequenceLength 26 = .ok (.ifCond .le 13, 3) := dk_158 0 13 (dk_at dksX7_sequenceLength_1 4 rfl rfl)
theorem dX7_sequenceLength_29 : decode cX7_sequenceLength 29 = .ok (.new 34, 3) := dk_187 0 34 (dk_at dksX7_sequenceLength_1 7 rfl rfl)
theorem dX7_sequenceLength_32 : decode cX7_sequenceLength 32 = .ok (.dup, 1) := dk_89 (dk_at dksX7_sequenceLength_1 10 rfl rfl)
theorem dX7_sequenceLength_33 : decode cX7_sequenceLength 33 = .ok (.ldc 36, 2) := dk_18 36 (dk_at dksX7_sequenceLength_1 11 rfl rfl)
theorem dX7_sequenceLength_35 : decode cX7_sequenceLength 35 = .ok (.invokespecial 38, 3) := dk_183 0 38 (dk_at dksX7_sequenceLength_1 13 rfl rfl)
theorem dX7_sequenceLength_38 : decode cX7_sequenceLength 38 = .ok (.athrow, 1) := dk_191 (dk_at dksX7_sequenceLength_1 16 rfl rfl)
theorem dX7_sequenceLength_39 : decode cX7_sequenceLength 39 = .ok (.lload_n 2, 1) := dk_32 (dk_at dksX7_sequenceLength_1 17 rfl rfl)
theorem dX7_sequenceLength_40 : decode cX7_sequenceLength 40 = .ok (.l2i, 1) := dk_136 (dk_at dksX7_sequenceLength_1 18 rfl rfl)
theorem dX7_sequenceLength_41 : decode cX7_sequenceLength 41 = .ok (.ireturn, 1) := dk_172 (dk_at dksX7_sequenceLength_1 19 rfl rfl)
abbrev cX7_lengthOfEncodedInteger : ByteArray := prog_11_method_5_code
def yX7_lengthOfEncodedInteger : MethodName := ⟨RX7, "lengthOfEncodedInteger", "(I)I"⟩
def dkwX7_lengthOfEncodedInteger_0 : List UInt8 := [26, 16, 15, 161, 0, 14, 26, 16, 15, 100, 17, 0, 255, 108, 4, 96, 172, 3, 172]
abbrev dktX7_lengthOfEncodedInteger_0 : List UInt8 := dkwX7_lengthOfEncodedInteger_0 ++ []
theorem dksX7_lengthOfEncodedInteger_0 : cX7_lengthOfEncodedInteger.data.toList.drop 0 = dktX7_lengthOfEncodedInteger_0 := by decide +kernel
theorem dX7_lengthOfEncodedInteger_0 : decode cX7_lengthOfEncodedInteger 0 = .ok (.iload_n 0, 1) := dk_26 (dk_at dksX7_lengthOfEncodedInteger_0 0 rfl rfl)
theorem dX7_lengthOfEncodedInteger_1 : decode cX7_lengthOfEncodedInteger 1 = .ok (.bipush 15, 2) := dk_16 15 (dk_at dksX7_lengthOfEncodedInteger_0 1 rfl rfl)
theorem dX7_lengthOfEncodedInteger_3 : decode cX7_lengthOfEncodedInteger 3 = .ok (.if_icmp .lt 14, 3) := dk_161 0 14 (dk_at dksX7_lengthOfEncodedInteger_0 3 rfl rfl)
theorem dX7_lengthOfEncodedInteger_6 : decode cX7_lengthOfEncodedInteger 6 = .ok (.iload_n 0, 1) := dk_26 (dk_at dksX7_lengthOfEncodedInteger_0 6 rfl rfl)
theorem dX7_lengthOfEncodedInteger_7 : decode cX7_lengthOfEncodedInteger 7 = .ok (.bipush 15, 2) := dk_16 15 (dk_at dksX7_lengthOfEncodedInteger_0 7 rfl rfl)
theorem dX7_lengthOfEncodedInteger_9 : decode cX7_lengthOfEncodedInteger 9 = .ok (.isub, 1) := dk_100 (dk_at dksX7_lengthOfEncodedInteger_0 9 rfl rfl)
theorem dX7_lengthOfEncodedInteger_10 : decode cX7_lengthOfEncodedInteger 10 = .ok (.sipush 255, 3) := dk_17 0 255 (dk_at dksX7_lengthOfEncodedInteger_0 10 rfl rfl)
theorem dX7_lengthOfEncodedInteger_13 : decode cX7_lengthOfEncodedInteger 13 = .ok (.idiv, 1) := dk_108 (dk_at dksX7_lengthOfEncodedInteger_0 13 rfl rfl)
theorem dX7_lengthOfEncodedInteger_14 : decode cX7_lengthOfEncodedInteger 14 = .ok (.iconst 1, 1) := dk_4 (dk_at dksX7_lengthOfEncodedInteger_0 14 rfl rfl)
theorem dX7_lengthOfEncodedInteger_15 : decode cX7_lengthOfEncodedInteger 15 = .ok (.iadd, 1) := dk_96 (dk_at dksX7_lengthOfEncodedInteger_0 15 rfl rfl)
theorem dX7_lengthOfEncodedInteger_16 : decode cX7_lengthOfEncodedInteger 16 = .ok (.ireturn, 1) := dk_172 (dk_at dksX7_lengthOfEncodedInteger_0 16 rfl rfl)
theorem dX7_lengthOfEncodedInteger_17 : decode cX7_lengthOfEncodedInteger 17 = .ok (.iconst 0, 1) := dk_3 (dk_at dksX7_lengthOfEncodedInteger_0 17 rfl rfl)
theorem dX7_lengthOfEncodedInteger_18 : decode cX7_lengthOfEncodedInteger 18 = .ok (.ireturn, 1) := dk_172 (dk_at dksX7_lengthOfEncodedInteger_0 18 rfl rfl)
abbrev cX7_notEnoughSpace : ByteArray := prog_11_method_4_code
def yX7_notEnoughSpace : MethodName := ⟨RX7, "notEnoughSpace", "(II)Z"⟩
def dkwX7_notEnoughSpace_0 : List UInt8 := [27, 156, 0, 5, 4, 172, 26, 27, 162, 0, 7, 4, 167, 0, 4, 3, 172]
abbrev dktX7_notEnoughSpace_0 : List UInt8 := dkwX7_notEnoughSpace_0 ++ []
theorem dksX7_notEnoughSpace_0 : cX7_notEnoughSpace.data.toList.drop 0 = dktX7_notEnoughSpace_0 := by decide +kernel
theorem dX7_notEnoughSpace_0 : decode cX7_notEnoughSpace 0 = .ok (.iload_n 1, 1) := dk_27 (dk_at dksX7_notEnoughSpace_0 0 rfl rfl)
theorem dX7_notEnoughSpace_1 : decode cX7_notEnoughSpace 1 = .ok (.ifCond .ge 5, 3) := dk_156 0 5 (dk_at dksX7_notEnoughSpace_0 1 rfl rfl)
theorem dX7_notEnoughSpace_4 : decode cX7_notEnoughSpace 4 = .ok (.iconst 1, 1) := dk_4 (dk_at dksX7_notEnoughSpace_0 4 rfl rfl)
theorem dX7_notEnoughSpace_5 : decode cX7_notEnoughSpace 5 = .ok (.ireturn, 1) := dk_172 (dk_at dksX7_notEnoughSpace_0 5 rfl rfl)
theorem dX7_notEnoughSpace_6 : decode cX7_notEnoughSpace 6 = .ok (.iload_n 0, 1) := dk_26 (dk_at dksX7_notEnoughSpace_0 6 rfl rfl)
theorem dX7_notEnoughSpace_7 : decode cX7_notEnoughSpace 7 = .ok (.iload_n 1, 1) := dk_27 (dk_at dksX7_notEnoughSpace_0 7 rfl rfl)
theorem dX7_notEnoughSpace_8 : decode cX7_notEnoughSpace 8 = .ok (.if_icmp .ge 7, 3) := dk_162 0 7 (dk_at dksX7_notEnoughSpace_0 8 rfl rfl)
theorem dX7_notEnoughSpace_11 : decode cX7_notEnoughSpace 11 = .ok (.iconst 1, 1) := dk_4 (dk_at dksX7_notEnoughSpace_0 11 rfl rfl)
theorem dX7_notEnoughSpace_12 : decode cX7_notEnoughSpace 12 = .ok (.goto 4, 3) := dk_167 0 4 (dk_at dksX7_notEnoughSpace_0 12 rfl rfl)
theorem dX7_notEnoughSpace_15 : decode cX7_notEnoughSpace 15 = .ok (.iconst 0, 1) := dk_3 (dk_at dksX7_notEnoughSpace_0 15 rfl rfl)
theorem dX7_notEnoughSpace_16 : decode cX7_notEnoughSpace 16 = .ok (.ireturn, 1) := dk_172 (dk_at dksX7_notEnoughSpace_0 16 rfl rfl)
abbrev cX7_hash : ByteArray := prog_11_method_7_code
def yX7_hash : MethodName := ⟨RX7, "hash", "(I)I"⟩
def dkwX7_hash_0 : List UInt8 := [26, 18, 41, 104, 16, 20, 124, 172]
abbrev dktX7_hash_0 : List UInt8 := dkwX7_hash_0 ++ []
theorem dksX7_hash_0 : cX7_hash.data.toList.drop 0 = dktX7_hash_0 := by decide +kernel
theorem dX7_hash_0 : decode cX7_hash 0 = .ok (.iload_n 0, 1) := dk_26 (dk_at dksX7_hash_0 0 rfl rfl)
theorem dX7_hash_1 : decode cX7_hash 1 = .ok (.ldc 41, 2) := dk_18 41 (dk_at dksX7_hash_0 1 rfl rfl)
theorem dX7_hash_3 : decode cX7_hash 3 = .ok (.imul, 1) := dk_104 (dk_at dksX7_hash_0 3 rfl rfl)
theorem dX7_hash_4 : decode cX7_hash 4 = .ok (.bipush 20, 2) := dk_16 20 (dk_at dksX7_hash_0 4 rfl rfl)
theorem dX7_hash_6 : decode cX7_hash 6 = .ok (.iushr, 1) := dk_124 (dk_at dksX7_hash_0 6 rfl rfl)
theorem dX7_hash_7 : decode cX7_hash 7 = .ok (.ireturn, 1) := dk_172 (dk_at dksX7_hash_0 7 rfl rfl)
abbrev cX7_zero : ByteArray := prog_11_method_9_code
def yX7_zero : MethodName := ⟨RX7, "zero", "([BII)V"⟩
def dkwX7_zero_0 : List UInt8 := [42, 27, 28, 3, 184, 0, 42, 177]
abbrev dktX7_zero_0 : List UInt8 := dkwX7_zero_0 ++ []
theorem dksX7_zero_0 : cX7_zero.data.toList.drop 0 = dktX7_zero_0 := by decide +kernel
theorem dX7_zero_0 : decode cX7_zero 0 = .ok (.aload_n 0, 1) := dk_42 (dk_at dksX7_zero_0 0 rfl rfl)
theorem dX7_zero_1 : decode cX7_zero 1 = .ok (.iload_n 1, 1) := dk_27 (dk_at dksX7_zero_0 1 rfl rfl)
theorem dX7_zero_2 : decode cX7_zero 2 = .ok (.iload_n 2, 1) := dk_28 (dk_at dksX7_zero_0 2 rfl rfl)
theorem dX7_zero_3 : decode cX7_zero 3 = .ok (.iconst 0, 1) := dk_3 (dk_at dksX7_zero_0 3 rfl rfl)
theorem dX7_zero_4 : decode cX7_zero 4 = .ok (.invokestatic 42, 3) := dk_184 0 42 (dk_at dksX7_zero_0 4 rfl rfl)
theorem dX7_zero_7 : decode cX7_zero 7 = .ok (.return_, 1) := dk_177 (dk_at dksX7_zero_0 7 rfl rfl)
theorem q18 : (Jvm.Cond.initialized "LZ4Utils") ∈ lw_all := lw_g (lw_at lw_m1 16 rfl) rfl
theorem q225 : (Jvm.Cond.static ({ cls := "LZ4Utils", name := "hash64k", desc := "(I)I" } : Jvm.MethodName)) ∈ lw_all := lw_g (lw_at lw_m1 223 rfl) rfl
theorem q226 : (Jvm.Cond.code ({ cls := "LZ4Utils", name := "hash64k", desc := "(I)I" } : Jvm.MethodName) prog_11_method_8_code (1 : Nat) (Option.some Jvm.ClassFile.FieldType.int)) ∈ lw_all := lw_g (lw_at lw_m1 224 rfl) rfl
theorem q227 : (Jvm.Cond.constant "LZ4Utils" (41 : Nat) (-1640531535 : Int32)) ∈ lw_all := lw_g (lw_at lw_m1 225 rfl) rfl
theorem q242 : (Jvm.Cond.static ({ cls := "LZ4Utils", name := "sequenceLength", desc := "(II)I" } : Jvm.MethodName)) ∈ lw_all := lw_g (lw_at lw_m2 0 rfl) rfl
theorem q243 : (Jvm.Cond.code ({ cls := "LZ4Utils", name := "sequenceLength", desc := "(II)I" } : Jvm.MethodName) prog_11_method_6_code (4 : Nat) (Option.some Jvm.ClassFile.FieldType.int)) ∈ lw_all := lw_g (lw_at lw_m2 1 rfl) rfl
theorem q244 : (Jvm.Cond.methodLink "LZ4Utils" (24 : Nat) ({ cls := "LZ4Utils", name := "lengthOfEncodedInteger", desc := "(I)I" } : Jvm.MethodName)) ∈ lw_all := lw_g (lw_at lw_m2 2 rfl) rfl
theorem q245 : (Jvm.Cond.static ({ cls := "LZ4Utils", name := "lengthOfEncodedInteger", desc := "(I)I" } : Jvm.MethodName)) ∈ lw_all := lw_g (lw_at lw_m2 3 rfl) rfl
theorem q246 : (Jvm.Cond.code ({ cls := "LZ4Utils", name := "lengthOfEncodedInteger", desc := "(I)I" } : Jvm.MethodName) prog_11_method_5_code (1 : Nat) (Option.some Jvm.ClassFile.FieldType.int)) ∈ lw_all := lw_g (lw_at lw_m2 4 rfl) rfl
theorem q247 : (Jvm.Cond.constantLong "LZ4Utils" (28 : Nat) (2 : Int64)) ∈ lw_all := lw_g (lw_at lw_m2 5 rfl) rfl
theorem q248 : (Jvm.Cond.constantLong "LZ4Utils" (32 : Nat) (2147483647 : Int64)) ∈ lw_all := lw_g (lw_at lw_m2 6 rfl) rfl
theorem q249 : (Jvm.Cond.classLink "LZ4Utils" (34 : Nat) "LZ4Exception") ∈ lw_all := lw_g (lw_at lw_m2 7 rfl) rfl
theorem q258 : (Jvm.Cond.stringRef "LZ4Utils" (36 : Nat) "Sequence length too large") ∈ lw_tbl := lw_at lw_m2 16 rfl
theorem q259 : (Jvm.Cond.methodLink "LZ4Utils" (38 : Nat) ({ cls := "LZ4Exception", name := "<init>", desc := "(Ljava/lang/String;)V" } : Jvm.MethodName)) ∈ lw_all := lw_g (lw_at lw_m2 17 rfl) rfl
theorem q267 : (Jvm.Cond.static ({ cls := "LZ4Utils", name := "notEnoughSpace", desc := "(II)Z" } : Jvm.MethodName)) ∈ lw_all := lw_g (lw_at lw_m2 25 rfl) rfl
theorem q268 : (Jvm.Cond.code ({ cls := "LZ4Utils", name := "notEnoughSpace", desc := "(II)Z" } : Jvm.MethodName) prog_11_method_4_code (2 : Nat) (Option.some Jvm.ClassFile.FieldType.boolean)) ∈ lw_all := lw_g (lw_at lw_m2 26 rfl) rfl
theorem q326 : (Jvm.Cond.static ({ cls := "LZ4Utils", name := "hash", desc := "(I)I" } : Jvm.MethodName)) ∈ lw_all := lw_g (lw_at lw_m2 84 rfl) rfl
theorem q327 : (Jvm.Cond.code ({ cls := "LZ4Utils", name := "hash", desc := "(I)I" } : Jvm.MethodName) prog_11_method_7_code (1 : Nat) (Option.some Jvm.ClassFile.FieldType.int)) ∈ lw_all := lw_g (lw_at lw_m2 85 rfl) rfl
theorem q364 : (Jvm.Cond.static ({ cls := "LZ4Utils", name := "zero", desc := "([BII)V" } : Jvm.MethodName)) ∈ lw_all := lw_g (lw_at lw_m2 122 rfl) rfl
theorem q365 : (Jvm.Cond.code ({ cls := "LZ4Utils", name := "zero", desc := "([BII)V" } : Jvm.MethodName) prog_11_method_9_code (3 : Nat) (Option.none : Option Jvm.ClassFile.FieldType)) ∈ lw_all := lw_g (lw_at lw_m2 123 rfl) rfl
theorem q366 : (Jvm.Cond.methodLink "LZ4Utils" (42 : Nat) ({ cls := "java/util/Arrays", name := "fill", desc := "([BIIB)V" } : Jvm.MethodName)) ∈ lw_all := lw_g (lw_at lw_m2 124 rfl) rfl
/-! LZ4SafeUtils -/
set_option maxRecDepth 100000
def RX8 : String := "LZ4SafeUtils"
abbrev cX8_readIntEquals : ByteArray := prog_10_method_4_code
def yX8_readIntEquals : MethodName := ⟨RX8, "readIntEquals", "([BII)Z"⟩
def dkwX8_readIntEquals_2 : List UInt8 := [4, 167, 0, 4, 3, 172]
abbrev dktX8_readIntEquals_2 : List UInt8 := dkwX8_readIntEquals_2 ++ []
def dkwX8_readIntEquals_1 : List UInt8 := [5, 96, 51, 42, 28, 5, 96, 51, 160, 0, 20, 42, 27, 6, 96, 51, 42, 28, 6, 96, 51, 160, 0, 7]
abbrev dktX8_readIntEquals_1 : List UInt8 := dkwX8_readIntEquals_1 ++ dktX8_readIntEquals_2
def dkwX8_readIntEquals_0 : List UInt8 := [42, 27, 51, 42, 28, 51, 160, 0, 46, 42, 27, 4, 96, 51, 42, 28, 4, 96, 51, 160, 0, 33, 42, 27]
abbrev dktX8_readIntEquals_0 : List UInt8 := dkwX8_readIntEquals_0 ++ dktX8_readIntEquals_1
theorem dksX8_readIntEquals_0 : cX8_readIntEquals.data.toList.drop 0 = dktX8_readIntEquals_0 := by decide +kernel
theorem dksX8_readIntEquals_1 : cX8_readIntEquals.data.toList.drop 24 = dktX8_readIntEquals_1 := dk_seg dksX8_readIntEquals_0 24 rfl rfl
theorem dksX8_readIntEquals_2 : cX8_readIntEquals.data.toList.drop 48 = dktX8_readIntEquals_2 := dk_seg dksX8_readIntEquals_1 24 rfl rfl
theorem dX8_readIntEquals_0 : decode cX8_readIntEquals 0 = .ok (.aload_n 0, 1) := dk_42 (dk_at dksX8_readIntEquals_0 0 rfl rfl)
theorem dX8_readIntEquals_1 : decode cX8_readIntEquals 1 = .ok (.iload_n 1, 1) := dk_27 (dk_at dksX8_readIntEquals_0 1 rfl rfl)
theorem dX8_readIntEquals_2 : decode cX8_readIntEquals 2 = .ok (.baload, 1) := dk_51 (dk_at dksX8_readIntEquals_0 2 rfl rfl)
theorem dX8_readIntEquals_3 : decode cX8_readIntEquals 3 = .ok (.aload_n 0, 1) := dk_42 (dk_at dksX8_readIntEquals_0 3 rfl rfl)
theorem dX8_readIntEquals_4 : decode cX8_readIntEquals 4 = .ok (.iload_n 2, 1) := dk_28 (dk_at dksX8_readIntEquals_0 4 rfl rfl)
theorem dX8_readIntEquals_5 : decode cX8_readIntEquals 5 = .ok (.baload, 1) := dk_51 (dk_at dksX8_readIntEquals_0 5 rfl rfl)
theorem dX8_readIntEquals_6 : decode cX8_readIntEquals 6 = .ok (.if_icmp .ne 46, 3) := dk_160 0 46 (dk_at dksX8_readIntEquals_0 6 rfl rfl)
theorem dX8_readIntEquals_9 : decode cX8_readIntEquals 9 = .ok (.aload_n 0, 1) := dk_42 (dk_at dksX8_readIntEquals_0 9 rfl rfl)
theorem dX8_readIntEquals_10 : decode cX8_readIntEquals 10 = .ok (.iload_n 1, 1) := dk_27 (dk_at dksX8_readIntEquals_0 10 rfl rfl)
theorem dX8_readIntEquals_11 : decode cX8_readIntEquals 11 = .ok (.iconst 1, 1) := dk_4 (dk_at dksX8_readIntEquals_0 11 rfl rfl)
theorem dX8_readIntEquals_12 : decode cX8_readIntEquals 12 = .ok (.iadd, 1) := dk_96 (dk_at dksX8_readIntEquals_0 12 rfl rfl)
theorem dX8_readIntEquals_13 : decode cX8_readIntEquals 13 = .ok (.baload, 1) := dk_51 (dk_at dksX8_readIntEquals_0 13 rfl rfl)
theorem dX8_readIntEquals_14 : decode cX8_readIntEquals 14 = .ok (.aload_n 0, 1) := dk_42 (dk_at dksX8_readIntEquals_0 14 rfl rfl)
theorem dX8_readIntEquals_15 : decode cX8_readIntEquals 15 = .ok (.iload_n 2, 1) := dk_28 (dk_at dksX8_readIntEquals_0 15 rfl rfl)
theorem dX8_readIntEquals_16 : decode cX8_readIntEquals 16 = .ok (.iconst 1, 1) := dk_4 (dk_at dksX8_readIntEquals_0 16 rfl rfl)
theorem dX8_readIntEquals_17 : decode cX8_readIntEquals 17 = .ok (.iadd, 1) := dk_96 (dk_at dksX8_readIntEquals_0 17 rfl rfl)
theorem dX8_readIntEquals_18 : decode cX8_readIntEquals 18 = .ok (.baload, 1) := dk_51 (dk_at dksX8_readIntEquals_0 18 rfl rfl)
theorem dX8_readIntEquals_19 : decode cX8_readIntEquals 19 = .ok (.if_icmp .ne 33, 3) := dk_160 0 33 (dk_at dksX8_readIntEquals_0 19 rfl rfl)
theorem dX8_readIntEquals_22 : decode cX8_readIntEquals 22 = .ok (.aload_n 0, 1) := dk_42 (dk_at dksX8_readIntEquals_0 22 rfl rfl)
theorem dX8_readIntEquals_23 : decode cX8_readIntEquals 23 = .ok (.iload_n 1, 1) := dk_27 (dk_at dksX8_readIntEquals_0 23 rfl rfl)
theorem dX8_readIntEquals_24 : decode cX8_readIntEquals 24 = .ok (.iconst 2, 1) := dk_5 (dk_at dksX8_readIntEquals_1 0 rfl rfl)
theorem dX8_readIntEquals_25 : decode cX8_readIntEquals 25 = .ok (.iadd, 1) := dk_96 (dk_at dksX8_readIntEquals_1 1 rfl rfl)
theorem dX8_readIntEquals_26 : decode cX8_readIntEquals 26 = .ok (.baload, 1) := dk_51 (dk_at dksX8_readIntEquals_1 2 rfl rfl)
theorem dX8_readIntEquals_27 : decode cX8_readIntEquals 27 = .ok (.aload_n 0, 1) := dk_42 (dk_at dksX8_readIntEquals_1 3 rfl rfl)
theorem dX8_readIntEquals_28 : decode cX8_readIntEquals 28 = .ok (.iload_n 2, 1) := dk_28 (dk_at dksX8_readIntEquals_1 4 rfl rfl)
theorem dX8_readIntEquals_29 : decode cX8_readIntEquals 29 = .ok (.iconst 2, 1) := dk_5 (dk_at dksX8_readIntEquals_1 5 rfl rfl)
theorem dX8_readIntEquals_30 : decode cX8_readIntEquals 30 = .ok (.iadd, 1) := dk_96 (dk_at dksX8_readIntEquals_1 6 rfl rfl)
theorem dX8_readIntEquals_31 : decode cX8_readIntEquals 31 = .ok (.baload, 1) := dk_51 (dk_at dksX8_readIntEquals_1 7 rfl rfl)
theorem dX8_readIntEquals_32 : decode cX8_readIntEquals 32 = .ok (.if_icmp .ne 20, 3) := dk_160 0 20 (dk_at dksX8_readIntEquals_1 8 rfl rfl)
theorem dX8_readIntEquals_35 : decode cX8_readIntEquals 35 = .ok (.aload_n 0, 1) := dk_42 (dk_at dksX8_readIntEquals_1 11 rfl rfl)
theorem dX8_readIntEquals_36 : decode cX8_readIntEquals 36 = .ok (.iload_n 1, 1) := dk_27 (dk_at dksX8_readIntEquals_1 12 rfl rfl)
theorem dX8_readIntEquals_37 : decode cX8_readIntEquals 37 = .ok (.iconst 3, 1) := dk_6 (dk_at dksX8_readIntEquals_1 13 rfl rfl)
theorem dX8_readIntEquals_38 : decode cX8_readIntEquals 38 = .ok (.iadd, 1) := dk_96 (dk_at dksX8_readIntEquals_1 14 rfl rfl)
theorem dX8_readIntEquals_39 : decode cX8_readIntEquals 39 = .ok (.baload, 1) := dk_51 (dk_at dksX8_readIntEquals_1 15 rfl rfl)
theorem dX8_readIntEquals_40 : decode cX8_readIntEquals 40 = .ok (.aload_n 0, 1) := dk_42 (dk_at dksX8_readIntEquals_1 16 rfl rfl)
theorem dX8_readIntEquals_41 : decode cX8_readIntEquals 41 = .ok (.iload_n 2, 1) := dk_28 (dk_at dksX8_readIntEquals_1 17 rfl rfl)
theorem dX8_readIntEquals_42 : decode cX8_readIntEquals 42 = .ok (.iconst 3, 1) := dk_6 (dk_at dksX8_readIntEquals_1 18 rfl rfl)
theorem dX8_readIntEquals_43 : decode cX8_readIntEquals 43 = .ok (.iadd, 1) := dk_96 (dk_at dksX8_readIntEquals_1 19 rfl rfl)
theorem dX8_readIntEquals_44 : decode cX8_readIntEquals 44 = .ok (.baload, 1) := dk_51 (dk_at dksX8_readIntEquals_1 20 rfl rfl)
theorem dX8_readIntEquals_45 : decode cX8_readIntEquals 45 = .ok (.if_icmp .ne 7, 3) := dk_160 0 7 (dk_at dksX8_readIntEquals_1 21 rfl rfl)
theorem dX8_readIntEquals_48 : decode cX8_readIntEquals 48 = .ok (.iconst 1, 1) := dk_4 (dk_at dksX8_readIntEquals_2 0 rfl rfl)
theorem dX8_readIntEquals_49 : decode cX8_readIntEquals 49 = .ok (.goto 4, 3) := dk_167 0 4 (dk_at dksX8_readIntEquals_2 1 rfl rfl)
theorem dX8_readIntEquals_52 : decode cX8_readIntEquals 52 = .ok (.iconst 0, 1) := dk_3 (dk_at dksX8_readIntEquals_2 4 rfl rfl)
theorem dX8_readIntEquals_53 : decode cX8_readIntEquals 53 = .ok (.ireturn, 1) := dk_172 (dk_at dksX8_readIntEquals_2 5 rfl rfl)
abbrev cX8_commonBytesBackward : ByteArray := prog_10_method_9_code
def yX8_commonBytesBackward : MethodName := ⟨RX8, "commonBytesBackward", "([BIIII)I"⟩
def dkwX8_commonBytesBackward_1 : List UInt8 := [28, 51, 160, 0, 9, 132, 5, 1, 167, 255, 227, 21, 5, 172]
abbrev dktX8_commonBytesBackward_1 : List UInt8 := dkwX8_commonBytesBackward_1 ++ []
def dkwX8_commonBytesBackward_0 : List UInt8 := [3, 54, 5, 27, 29, 164, 0, 30, 28, 21, 4, 164, 0, 24, 42, 132, 1, 255, 27, 51, 42, 132, 2, 255]
abbrev dktX8_commonBytesBackward_0 : List UInt8 := dkwX8_commonBytesBackward_0 ++ dktX8_commonBytesBackward_1
theorem dksX8_commonBytesBackward_0 : cX8_commonBytesBackward.data.toList.drop 0 = dktX8_commonBytesBackward_0 := by decide +kernel
theorem dksX8_commonBytesBackward_1 : cX8_commonBytesBackward.data.toList.drop 24 = dktX8_commonBytesBackward_1 := dk_seg dksX8_commonBytesBackward_0 24 rfl rfl
theorem dX8_commonBytesBackward_0 : decode cX8_commonBytesBackward 0 = .ok (.iconst 0, 1) := dk_3 (dk_at dksX8_commonBytesBackward_0 0 rfl rfl)
theorem dX8_commonBytesBackward_1 : decode cX8_commonBytesBackward 1 = .ok (.istore 5, 2) := dk_54 5 (dk_at dksX8_commonBytesBackward_0 1 rfl rfl)
theorem dX8_commonBytesBackward_3 : decode cX8_commonBytesBackward 3 = .ok (.iload_n 1, 1) := dk_27 (dk_at dksX8_commonBytesBackward_0 3 rfl rfl)
theorem dX8_commonBytesBackward_4 : decode cX8_commonBytesBackward 4 = .ok (.iload_n 3, 1) := dk_29 (dk_at dksX8_commonBytesBackward_0 4 rfl rfl)
theorem dX8_commonBytesBackward_5 : decode cX8_commonBytesBackward 5 = .ok (.if_icmp .le 30, 3) := dk_164 0 30 (dk_at dksX8_commonBytesBackward_0 5 rfl rfl)
theorem dX8_commonBytesBackward_8 : decode cX8_commonBytesBackward 8 = .ok (.iload_n 2, 1) := dk_28 (dk_at dksX8_commonBytesBackward_0 8 rfl rfl)
theorem dX8_commonBytesBackward_9 : decode cX8_commonBytesBackward 9 = .ok (.iload 4, 2) := dk_21 4 (dk_at dksX8_commonBytesBackward_0 9 rfl rfl)
theorem dX8_commonBytesBackward_11 : decode cX8_commonBytesBackward 11 = .ok (.if_icmp .le 24, 3) := dk_164 0 24 (dk_at dksX8_commonBytesBackward_0 11 rfl rfl)
theorem dX8_commonBytesBackward_14 : decode cX8_commonBytesBackward 14 = .ok (.aload_n 0, 1) := dk_42 (dk_at dksX8_commonBytesBackward_0 14 rfl rfl)
theorem dX8_commonBytesBackward_15 : decode cX8_commonBytesBackward 15 = .ok (.iinc 1 (-1), 3) := dk_132 1 255 (dk_at dksX8_commonBytesBackward_0 15 rfl rfl)
theorem dX8_commonBytesBackward_18 : decode cX8_commonBytesBackward 18 = .ok (.iload_n 1, 1) := dk_27 (dk_at dksX8_commonBytesBackward_0 18 rfl rfl)
theorem dX8_commonBytesBackward_19 : decode cX8_commonBytesBackward 19 = .ok (.baload, 1) := dk_51 (dk_at dksX8_commonBytesBackward_0 19 rfl rfl)
theorem dX8_commonBytesBackward_20 : decode cX8_commonBytesBackward 20 = .ok (.aload_n 0, 1) := dk_42 (dk_at dksX8_commonBytesBackward_0 20 rfl rfl)
theorem dX8_commonBytesBackward_21 : decode cX8_commonBytesBackward 21 = .ok (.iinc 2 (-1), 3) := dk_132 2 255 (dk_at dksX8_commonBytesBackward_0 21 rfl rfl)
theorem dX8_commonBytesBackward_24 : decode cX8_commonBytesBackward 24 = .ok (.iload_n 2, 1) := dk_28 (dk_at dksX8_commonBytesBackward_1 0 rfl rfl)
theorem dX8_commonBytesBackward_25 : decode cX8_commonBytesBackward 25 = .ok (.baload, 1) := dk_51 (dk_at dksX8_commonBytesBackward_1 1 rfl rfl)
theorem dX8_commonBytesBackward_26 : decode cX8_commonBytesBackward 26 = .ok (.if_icmp .ne 9, 3) := dk_160 0 9 (dk_at dksX8_commonBytesBackward_1 2 rfl rfl)
theorem dX8_commonBytesBackward_29 : decode cX8_commonBytesBackward 29 = .ok (.iinc 5 1, 3) := dk_132 5 1 (dk_at dksX8_commonBytesBackward_1 5 rfl rfl)
theorem dX8_commonBytesBackward_32 : decode cX8_commonBytesBackward 32 = .ok (.goto (-29), 3) := dk_167 255 227 (dk_at dksX8_commonBytesBackward_1 8 rfl rfl)
theorem dX8_commonBytesBackward_35 : decode cX8_commonBytesBackward 35 = .ok (.iload 5, 2) := dk_21 5 (dk_at dksX8_commonBytesBackward_1 11 rfl rfl)
theorem dX8_commonBytesBackward_37 : decode cX8_commonBytesBackward 37 = .ok (.ireturn, 1) := dk_172 (dk_at dksX8_commonBytesBackward_1 13 rfl rfl)
abbrev cX8_writeLen : ByteArray := prog_10_method_13_code
def yX8_writeLen : MethodName := ⟨RX8, "writeLen", "(I[BI)I"⟩
def dkwX8_writeLen_1 : List UInt8 := [28, 132, 2, 1, 26, 145, 84, 28, 172]
abbrev dktX8_writeLen_1 : List UInt8 := dkwX8_writeLen_1 ++ []
def dkwX8_writeLen_0 : List UInt8 := [26, 17, 0, 255, 161, 0, 19, 43, 28, 132, 2, 1, 2, 84, 196, 132, 0, 0, 255, 1, 167, 255, 236, 43]
abbrev dktX8_writeLen_0 : List UInt8 := dkwX8_writeLen_0 ++ dktX8_writeLen_1
theorem dksX8_writeLen_0 : cX8_writeLen.data.toList.drop 0 = dktX8_writeLen_0 := by decide +kernel
theorem dksX8_writeLen_1 : cX8_writeLen.data.toList.drop 24 = dktX8_writeLen_1 := dk_seg dksX8_writeLen_0 24 rfl rfl
theorem dX8_writeLen_0 : decode cX8_writeLen 0 = .ok (.iload_n 0, 1) := dk_26 (dk_at dksX8_writeLen_0 0 rfl rfl)
theorem dX8_writeLen_1 : decode cX8_writeLen 1 = .ok (.sipush 255, 3) := dk_17 0 255 (dk_at dksX8_writeLen_0 1 rfl rfl)
theorem dX8_writeLen_4 : decode cX8_writeLen 4 = .ok (.if_icmp .lt 19, 3) := dk_161 0 19 (dk_at dksX8_writeLen_0 4 rfl rfl)
theorem dX8_writeLen_7 : decode cX8_writeLen 7 = .ok (.aload_n 1, 1) := dk_43 (dk_at dksX8_writeLen_0 7 rfl rfl)
theorem dX8_writeLen_8 : decode cX8_writeLen 8 = .ok (.iload_n 2, 1) := dk_28 (dk_at dksX8_writeLen_0 8 rfl rfl)
theorem dX8_writeLen_9 : decode cX8_writeLen 9 = .ok (.iinc 2 1, 3) := dk_132 2 1 (dk_at dksX8_writeLen_0 9 rfl rfl)
theorem dX8_writeLen_12 : decode cX8_writeLen 12 = .ok (.iconst (-1), 1) := dk_2 (dk_at dksX8_writeLen_0 12 rfl rfl)
theorem dX8_writeLen_13 : decode cX8_writeLen 13 = .ok (.bastore, 1) := dk_84 (dk_at dksX8_writeLen_0 13 rfl rfl)
theorem dX8_writeLen_14 : decode cX8_writeLen 14 = .ok (.iinc 0 (-255), 6) := by decide +kernel
theorem dX8_writeLen_20 : decode cX8_writeLen 20 = .ok (.goto (-20), 3) := dk_167 255 236 (dk_at dksX8_writeLen_0 20 rfl rfl)
theorem dX8_writeLen_23 : decode cX8_writeLen 23 = .ok (.aload_n 1, 1) := dk_43 (dk_at dksX8_writeLen_0 23 rfl rfl)
theorem dX8_writeLen_24 : decode cX8_writeLen 24 = .ok (.iload_n 2, 1) := dk_28 (dk_at dksX8_writeLen_1 0 rfl rfl)
theorem dX8_writeLen_25 : decode cX8_writeLen 25 = .ok (.iinc 2 1, 3) := dk_132 2 1 (dk_at dksX8_writeLen_1 1 rfl rfl)
theorem dX8_writeLen_28 : decode cX8_writeLen 28 = .ok (.iload_n 0, 1) := dk_26 (dk_at dksX8_writeLen_1 4 rfl rfl)
theorem dX8_writeLen_29 : decode cX8_writeLen 29 = .ok (.i2b, 1) := dk_145 (dk_at dksX8_writeLen_1 5 rfl rfl)
theorem dX8_writeLen_30 : decode cX8_writeLen 30 = .ok (.bastore, 1) := dk_84 (dk_at dksX8_writeLen_1 6 rfl rfl)
theorem dX8_writeLen_31 : decode cX8_writeLen 31 = .ok (.iload_n 2, 1) := dk_28 (dk_at dksX8_writeLen_1 7 rfl rfl)
theorem dX8_writeLen_32 : decode cX8_writeLen 32 = .ok (.ireturn, 1) := dk_172 (dk_at dksX8_writeLen_1 8 rfl rfl)
abbrev cX8_wildArraycopy : ByteArray := prog_10_method_11_code
def yX8_wildArraycopy : MethodName := ⟨RX8, "wildArraycopy", "([BI[BII)V"⟩
def dkwX8_wildArraycopy_1 : List UInt8 := [132, 5, 8, 167, 255, 233, 167, 0, 15, 58, 5, 187, 0, 34, 89, 18, 36, 183, 0, 38, 191, 177]
abbrev dktX8_wildArraycopy_1 : List UInt8 := dkwX8_wildArraycopy_1 ++ []
def dkwX8_wildArraycopy_0 : List UInt8 := [3, 54, 5, 21, 5, 21, 4, 162, 0, 22, 42, 27, 21, 5, 96, 44, 29, 21, 5, 96, 184, 0, 22]
abbrev dktX8_wildArraycopy_0 : List UInt8 := dkwX8_wildArraycopy_0 ++ dktX8_wildArraycopy_1
theorem dksX8_wildArraycopy_0 : cX8_wildArraycopy.data.toList.drop 0 = dktX8_wildArraycopy_0 := by decide +kernel
theorem dksX8_wildArraycopy_1 : cX8_wildArraycopy.data.toList.drop 23 = dktX8_wildArraycopy_1 := dk_seg dksX8_wildArraycopy_0 23 rfl rfl
theorem dX8_wildArraycopy_0 : decode cX8_wildArraycopy 0 = .ok (.iconst 0, 1) := dk_3 (dk_at dksX8_wildArraycopy_0 0 rfl rfl)
theorem dX8_wildArraycopy_1 : decode cX8_wildArraycopy 1 = .ok (.istore 5, 2) := dk_54 5 (dk_at dksX8_wildArraycopy_0 1 rfl rfl)
theorem dX8_wildArraycopy_3 : decode cX8_wildArraycopy 3 = .ok (.iload 5, 2) := dk_21 5 (dk_at dksX8_wildArraycopy_0 3 rfl rfl)
theorem dX8_wildArraycopy_5 : decode cX8_wildArraycopy 5 = .ok (.iload 4, 2) := dk_21 4 (dk_at dksX8_wildArraycopy_0 5 rfl rfl)
theorem dX8_wildArraycopy_7 : decode cX8_wildArraycopy 7 = .ok (.if_icmp .ge 22, 3) := dk_162 0 22 (dk_at dksX8_wildArraycopy_0 7 rfl rfl)
theorem dX8_wildArraycopy_10 : decode cX8_wildArraycopy 10 = .ok (.aload_n 0, 1) := dk_42 (dk_at dksX8_wildArraycopy_0 10 rfl rfl)
theorem dX8_wildArraycopy_11 : decode cX8_wildArraycopy 11 = .ok (.iload_n 1, 1) := dk_27 (dk_at dksX8_wildArraycopy_0 11 rfl rfl)
theorem dX8_wildArraycopy_12 : decode cX8_wildArraycopy 12 = .ok (.iload 5, 2) := dk_21 5 (dk_at dksX8_wildArraycopy_0 12 rfl rfl)
theorem dX8_wildArraycopy_14 : decode cX8_wildArraycopy 14 = .ok (.iadd, 1) := dk_96 (dk_at dksX8_wildArraycopy_0 14 rfl rfl)
theorem dX8_wildArraycopy_15 : decode cX8_wildArraycopy 15 = .ok (.aload_n 2, 1) := dk_44 (dk_at dksX8_wildArraycopy_0 15 rfl rfl)
theorem dX8_wildArraycopy_16 : decode cX8_wildArraycopy 16 = .ok (.iload_n 3, 1) := dk_29 (dk_at dksX8_wildArraycopy_0 16 rfl rfl)
theorem dX8_wildArraycopy_17 : decode cX8_wildArraycopy 17 = .ok (.iload 5, 2) := dk_21 5 (dk_at dksX8_wildArraycopy_0 17 rfl rfl)
theorem dX8_wildArraycopy_19 : decode cX8_wildArraycopy 19 = .ok (.iadd, 1) := dk_96 (dk_at dksX8_wildArraycopy_0 19 rfl rfl)
theorem dX8_wildArraycopy_20 : decode cX8_wildArraycopy 20 = .ok (.invokestatic 22, 3) := dk_184 0 22 (dk_at dksX8_wildArraycopy_0 20 rfl rfl)
theorem dX8_wildArraycopy_23 : decode cX8_wildArraycopy 23 = .ok (.iinc 5 8, 3) := dk_132 5 8 (dk_at dksX8_wildArraycopy_1 0 rfl rfl)
theorem dX8_wildArraycopy_26 : decode cX8_wildArraycopy 26 = .ok (.goto (-23), 3) := dk_167 255 233 (dk_at dksX8_wildArraycopy_1 3 rfl rfl)
theorem dX8_wildArraycopy_29 : decode cX8_wildArraycopy 29 = .ok (.goto 15, 3) := dk_167 0 15 (dk_at dksX8_wildArraycopy_1 6 rfl rfl)
theorem dX8_wildArraycopy_32 : decode cX8_wildArraycopy 32 = .ok (.astore 5, 2) := dk_58 5 (dk_at dksX8_wildArraycopy_1 9 rfl rfl)
theorem dX8_wildArraycopy_34 : decode cX8_wildArraycopy 34 = .ok (.new 34, 3) := dk_187 0 34 (dk_at dksX8_wildArraycopy_1 11 rfl rfl)
theorem dX8_wildArraycopy_37 : decode cX8_wildArraycopy 37 = .ok (.dup, 1) := dk_89 (dk_at dksX8_wildArraycopy_1 14 rfl rfl)
theorem dX8_wildArraycopy_38 : decode cX8_wildArraycopy 38 = .ok (.ldc 36, 2) := dk_18 36 (dk_at dksX8_wildArraycopy_1 15 rfl rfl)
theorem dX8_wildArraycopy_40 : decode cX8_wildArraycopy 40 = .ok (.invokespecial 38, 3) := dk_183 0 38 (dk_at dksX8_wildArraycopy_1 17 rfl rfl)
theorem dX8_wildArraycopy_43 : decode cX8_wildArraycopy 43 = .ok (.athrow, 1) := dk_191 (dk_at dksX8_wildArraycopy_1 20 rfl rfl)
theorem dX8_wildArraycopy_44 : decode cX8_wildArraycopy 44 = .ok (.return_, 1) := dk_177 (dk_at dksX8_wildArraycopy_1 21 rfl rfl)
abbrev cX8_copy8Bytes : ByteArray := prog_10_method_7_code
def yX8_copy8Bytes : MethodName := ⟨RX8, "copy8Bytes", "([BI[BI)V"⟩
def dkwX8_copy8Bytes_1 : List UInt8 := [132, 4, 1, 167, 255, 234, 177]
abbrev dktX8_copy8Bytes_1 : List UInt8 := dkwX8_copy8Bytes_1 ++ []
def dkwX8_copy8Bytes_0 : List UInt8 := [3, 54, 4, 21, 4, 16, 8, 162, 0, 21, 44, 29, 21, 4, 96, 42, 27, 21, 4, 96, 51, 84]
abbrev dktX8_copy8Bytes_0 : List UInt8 := dkwX8_copy8Bytes_0 ++ dktX8_copy8Bytes_1
theorem dksX8_copy8Bytes_0 : cX8_copy8Bytes.data.toList.drop 0 = dktX8_copy8Bytes_0 := by decide +kernel
theorem dksX8_copy8Bytes_1 : cX8_copy8Bytes.data.toList.drop 22 = dktX8_copy8Bytes_1 := dk_seg dksX8_copy8Bytes_0 22 rfl rfl
theorem dX8_copy8Bytes_0 : decode cX8_copy8Bytes 0 = .ok (.iconst 0, 1) := dk_3 (dk_at dksX8_copy8Bytes_0 0 rfl rfl)
theorem dX8_copy8Bytes_1 : decode cX8_copy8Bytes 1 = .ok (.istore 4, 2) := dk_54 4 (dk_at dksX8_copy8Bytes_0 1 rfl rfl)
theorem dX8_copy8Bytes_3 : decode cX8_copy8Bytes 3 = .ok (.iload 4, 2) := dk_21 4 (dk_at dksX8_copy8Bytes_0 3 rfl rfl)
theorem dX8_copy8Bytes_5 : decode cX8_copy8Bytes 5 = .ok (.bipush 8, 2) := dk_16 8 (dk_at dksX8_copy8Bytes_0 5 rfl rfl)
theorem dX8_copy8Bytes_7 : decode cX8_copy8Bytes 7 = .ok (.if_icmp .ge 21, 3) := dk_162 0 21 (dk_at dksX8_copy8Bytes_0 7 rfl rfl)
theorem dX8_copy8Bytes_10 : decode cX8_copy8Bytes 10 = .ok (.aload_n 2, 1) := dk_44 (dk_at dksX8_copy8Bytes_0 10 rfl rfl)
theorem dX8_copy8Bytes_11 : decode cX8_copy8Bytes 11 = .ok (.iload_n 3, 1) := dk_29 (dk_at dksX8_copy8Bytes_0 11 rfl rfl)
theorem dX8_copy8Bytes_12 : decode cX8_copy8Bytes 12 = .ok (.iload 4, 2) := dk_21 4 (dk_at dksX8_copy8Bytes_0 12 rfl rfl)
theorem dX8_copy8Bytes_14 : decode cX8_copy8Bytes 14 = .ok (.iadd, 1) := dk_96 (dk_at dksX8_copy8Bytes_0 14 rfl rfl)
theorem dX8_copy8Bytes_15 : decode cX8_copy8Bytes 15 = .ok (.aload_n 0, 1) := dk_42 (dk_at dksX8_copy8Bytes_0 15 rfl rfl)
theorem dX8_copy8Bytes_16 : decode cX8_copy8Bytes 16 = .ok (.iload_n 1, 1) := dk_27 (dk_at dksX8_copy8Bytes_0 16 rfl rfl)
theorem dX8_copy8Bytes_17 : decode cX8_copy8Bytes 17 = .ok (.iload 4, 2) := dk_21 4 (dk_at dksX8_copy8Bytes_0 17 rfl rfl)
theorem dX8_copy8Bytes_19 : decode cX8_copy8Bytes 19 = .ok (.iadd, 1) := dk_96 (dk_at dksX8_copy8Bytes_0 19 rfl rfl)
theorem dX8_copy8Bytes_20 : decode cX8_copy8Bytes 20 = .ok (.baload, 1) := dk_51 (dk_at dksX8_copy8Bytes_0 20 rfl rfl)
theorem dX8_copy8Bytes_21 : decode cX8_copy8Bytes 21 = .ok (.bastore, 1) := dk_84 (dk_at dksX8_copy8Bytes_0 21 rfl rfl)
theorem dX8_copy8Bytes_22 : decode cX8_copy8Bytes 22 = .ok (.iinc 4 1, 3) := dk_132 4 1 (dk_at dksX8_copy8Bytes_1 0 rfl rfl)
theorem dX8_copy8Bytes_25 : decode cX8_copy8Bytes 25 = .ok (.goto (-22), 3) := dk_167 255 234 (dk_at dksX8_copy8Bytes_1 3 rfl rfl)
theorem dX8_copy8Bytes_28 : decode cX8_copy8Bytes 28 = .ok (.return_, 1) := dk_177 (dk_at dksX8_copy8Bytes_1 6 rfl rfl)
abbrev cX8_commonBytes : ByteArray := prog_10_method_8_code
def yX8_commonBytes : MethodName := ⟨RX8, "commonBytes", "([BIII)I"⟩
def dkwX8_commonBytes_1 : List UInt8 := [132, 4, 1, 167, 255, 233, 21, 4, 172]
abbrev dktX8_commonBytes_1 : List UInt8 := dkwX8_commonBytes_1 ++ []
def dkwX8_commonBytes_0 : List UInt8 := [3, 54, 4, 28, 29, 162, 0, 24, 42, 27, 132, 1, 1, 51, 42, 28, 132, 2, 1, 51, 160, 0, 9]
abbrev dktX8_commonBytes_0 : List UInt8 := dkwX8_commonBytes_0 ++ dktX8_commonBytes_1
theorem dksX8_commonBytes_0 : cX8_commonBytes.data.toList.drop 0 = dktX8_commonBytes_0 := by decide +kernel
theorem dksX8_commonBytes_1 : cX8_commonBytes.data.toList.drop 23 = dktX8_commonBytes_1 := dk_seg dksX8_commonBytes_0 23 rfl rfl
theorem dX8_commonBytes_0 : decode cX8_commonBytes 0 = .ok (.iconst 0, 1) := dk_3 (dk_at dksX8_commonBytes_0 0 rfl rfl)
theorem dX8_commonBytes_1 : decode cX8_commonBytes 1 = .ok (.istore 4, 2) := dk_54 4 (dk_at dksX8_commonBytes_0 1 rfl rfl)
theorem dX8_commonBytes_3 : decode cX8_commonBytes 3 = .ok (.iload_n 2, 1) := dk_28 (dk_at dksX8_commonBytes_0 3 rfl rfl)
theorem dX8_commonBytes_4 : decode cX8_commonBytes 4 = .ok (.iload_n 3, 1) := dk_29 (dk_at dksX8_commonBytes_0 4 rfl rfl)
theorem dX8_commonBytes_5 : decode cX8_commonBytes 5 = .ok (.if_icmp .ge 24, 3) := dk_162 0 24 (dk_at dksX8_commonBytes_0 5 rfl rfl)
theorem dX8_commonBytes_8 : decode cX8_commonBytes 8 = .ok (.aload_n 0, 1) := dk_42 (dk_at dksX8_commonBytes_0 8 rfl rfl)
theorem dX8_commonBytes_9 : decode cX8_commonBytes 9 = .ok (.iload_n 1, 1) := dk_27 (dk_at dksX8_commonBytes_0 9 rfl rfl)
theorem dX8_commonBytes_10 : decode cX8_commonBytes 10 = .ok (.iinc 1 1, 3) := dk_132 1 1 (dk_at dksX8_commonBytes_0 10 rfl rfl)
theorem dX8_commonBytes_13 : decode cX8_commonBytes 13 = .ok (.baload, 1) := dk_51 (dk_at dksX8_commonBytes_0 13 rfl rfl)
theorem dX8_commonBytes_14 : decode cX8_commonBytes 14 = .ok (.aload_n 0, 1) := dk_42 (dk_at dksX8_commonBytes_0 14 rfl rfl)
theorem dX8_commonBytes_15 : decode cX8_commonBytes 15 = .ok (.iload_n 2, 1) := dk_28 (dk_at dksX8_commonBytes_0 15 rfl rfl)
theorem dX8_commonBytes_16 : decode cX8_commonBytes 16 = .ok (.iinc 2 1, 3) := dk_132 2 1 (dk_at dksX8_commonBytes_0 16 rfl rfl)
theorem dX8_commonBytes_19 : decode cX8_commonBytes 19 = .ok (.baload, 1) := dk_51 (dk_at dksX8_commonBytes_0 19 rfl rfl)
theorem dX8_commonBytes_20 : decode cX8_commonBytes 20 = .ok (.if_icmp .ne 9, 3) := dk_160 0 9 (dk_at dksX8_commonBytes_0 20 rfl rfl)
theorem dX8_commonBytes_23 : decode cX8_commonBytes 23 = .ok (.iinc 4 1, 3) := dk_132 4 1 (dk_at dksX8_commonBytes_1 0 rfl rfl)
theorem dX8_commonBytes_26 : decode cX8_commonBytes 26 = .ok (.goto (-23), 3) := dk_167 255 233 (dk_at dksX8_commonBytes_1 3 rfl rfl)
theorem dX8_commonBytes_29 : decode cX8_commonBytes 29 = .ok (.iload 4, 2) := dk_21 4 (dk_at dksX8_commonBytes_1 6 rfl rfl)
theorem dX8_commonBytes_31 : decode cX8_commonBytes 31 = .ok (.ireturn, 1) := dk_172 (dk_at dksX8_commonBytes_1 8 rfl rfl)
abbrev cX8_lastLiterals : ByteArray := prog_10_method_12_code
def yX8_lastLiterals : MethodName := ⟨RX8, "lastLiterals", "([BII[BII)I"⟩
def dkwX8_lastLiterals_3 : List UInt8 := [7, 120, 145, 84, 42, 27, 45, 21, 4, 21, 6, 184, 0, 26, 21, 4, 21, 6, 96, 54, 4, 21, 4, 172]
abbrev dktX8_lastLiterals_3 : List UInt8 := dkwX8_lastLiterals_3 ++ []
def dkwX8_lastLiterals_2 : List UInt8 := [21, 6, 16, 15, 100, 45, 21, 4, 184, 0, 56, 54, 4, 167, 0, 15, 45, 21, 4, 132, 4, 1, 21, 6]
abbrev dktX8_lastLiterals_2 : List UInt8 := dkwX8_lastLiterals_2 ++ dktX8_lastLiterals_3
def dkwX8_lastLiterals_1 : List UInt8 := [187, 0, 34, 89, 183, 0, 51, 191, 21, 6, 16, 15, 161, 0, 28, 45, 21, 4, 132, 4, 1, 16, 240, 84]
abbrev dktX8_lastLiterals_1 : List UInt8 := dkwX8_lastLiterals_1 ++ dktX8_lastLiterals_2
def dkwX8_lastLiterals_0 : List UInt8 := [28, 54, 6, 21, 5, 21, 4, 100, 4, 21, 6, 184, 0, 41, 96, 21, 6, 96, 184, 0, 47, 153, 0, 11]
abbrev dktX8_lastLiterals_0 : List UInt8 := dkwX8_lastLiterals_0 ++ dktX8_lastLiterals_1
theorem dksX8_lastLiterals_0 : cX8_lastLiterals.data.toList.drop 0 = dktX8_lastLiterals_0 := by decide +kernel
theorem dksX8_lastLiterals_1 : cX8_lastLiterals.data.toList.drop 24 = dktX8_lastLiterals_1 := dk_seg dksX8_lastLiterals_0 24 rfl rfl
theorem dksX8_lastLiterals_2 : cX8_lastLiterals.data.toList.drop 48 = dktX8_lastLiterals_2 := dk_seg dksX8_lastLiterals_1 24 rfl rfl
theorem dksX8_lastLiterals_3 : cX8_lastLiterals.data.toList.drop 72 = dktX8_lastLiterals_3 := dk_seg dksX8_lastLiterals_2 24 rfl rfl
theorem dX8_lastLiterals_0 : decode cX8_lastLiterals 0 = .ok (.iload_n 2, 1) := dk_28 (dk_at dksX8_lastLiterals_0 0 rfl rfl)
theorem dX8_lastLiterals_1 : decode cX8_lastLiterals 1 = .ok (.istore 6, 2) := dk_54 6 (dk_at dksX8_lastLiterals_0 1 rfl rfl)
theorem dX8_lastLiterals_3 : decode cX8_lastLiterals 3 = .ok (.iload 5, 2) := dk_21 5 (dk_at dksX8_lastLiterals_0 3 rfl rfl)
theorem dX8_lastLiterals_5 : decode cX8_lastLiterals 5 = .ok (.iload 4, 2) := dk_21 4 (dk_at dksX8_lastLiterals_0 5 rfl rfl)
theorem dX8_lastLiterals_7 : decode cX8_lastLiterals 7 = .ok (.isub, 1) := dk_100 (dk_at dksX8_lastLiterals_0 7 rfl rfl)
theorem dX8_lastLiterals_8 : decode cX8_lastLiterals 8 = .ok (.iconst 1, 1) := dk_4 (dk_at dksX8_lastLiterals_0 8 rfl rfl)
theorem dX8_lastLiterals_9 : decode cX8_lastLiterals 9 = .ok (.iload 6, 2) := dk_21 6 (dk_at dksX8_lastLiterals_0 9 rfl rfl)
theorem dX8_lastLiterals_11 : decode cX8_lastLiterals 11 = .ok (.invokestatic 41, 3) := dk_184 0 41 (dk_at dksX8_lastLiterals_0 11 rfl rfl)
theorem dX8_lastLiterals_14 : decode cX8_lastLiterals 14 = .ok (.iadd, 1) := dk_96 (dk_at dksX8_lastLiterals_0 14 rfl rfl)
theorem dX8_lastLiterals_15 : decode cX8_lastLiterals 15 = .ok (.iload 6, 2) := dk_21 6 (dk_at dksX8_lastLiterals_0 15 rfl rfl)
theorem dX8_lastLiterals_17 : decode cX8_lastLiterals 17 = .ok (.iadd, 1) := dk_96 (dk_at dksX8_lastLiterals_0 17 rfl rfl)
theorem dX8_lastLiterals_18 : decode cX8_lastLiterals 18 = .ok (.invokestatic 47, 3) := dk_184 0 47 (dk_at dksX8_lastLiterals_0 18 rfl rfl)
theorem dX8_lastLiterals_21 : decode cX8_lastLiterals 21 = .ok (.ifCond .eq 11, 3) := dk_153 0 11 (dk_at dksX8_lastLiterals_0 21 rfl rfl)
theorem dX8_lastLiterals_24 : decode cX8_lastLiterals 24 = .ok (.new 34, 3) := dk_187 0 34 (dk_at dksX8_lastLiterals_1 0 rfl rfl)
theorem dX8_lastLiterals_27 : decode cX8_lastLiterals 27 = .ok (.dup, 1) := dk_89 (dk_at dksX8_lastLiterals_1 3 rfl rfl)
theorem dX8_lastLiterals_28 : decode cX8_lastLiterals 28 = .ok (.invokespecial 51, 3) := dk_183 0 51 (dk_at dksX8_lastLiterals_1 4 rfl rfl)
theorem dX8_lastLiterals_31 : decode cX8_lastLiterals 31 = .ok (.athrow, 1) := dk_191 (dk_at dksX8_lastLiterals_1 7 rfl rfl)
theorem dX8_lastLiterals_32 : decode cX8_lastLiterals 32 = .ok (.iload 6, 2) := dk_21 6 (dk_at dksX8_lastLiterals_1 8 rfl rfl)
theorem dX8_lastLiterals_34 : decode cX8_lastLiterals 34 = .ok (.bipush 15, 2) := dk_16 15 (dk_at dksX8_lastLiterals_1 10 rfl rfl)
theorem dX8_lastLiterals_36 : decode cX8_lastLiterals 36 = .ok (.if_icmp .lt 28, 3) := dk_161 0 28 (dk_at dksX8_lastLiterals_1 12 rfl rfl)
theorem dX8_lastLiterals_39 : decode cX8_lastLiterals 39 = .ok (.aload_n 3, 1) := dk_45 (dk_at dksX8_lastLiterals_1 15 rfl rfl)
theorem dX8_lastLiterals_40 : decode cX8_lastLiterals 40 = .ok (.iload 4, 2) := dk_21 4 (dk_at dksX8_lastLiterals_1 16 rfl rfl)
theorem dX8_lastLiterals_42 : decode cX8_lastLiterals 42 = .ok (.iinc 4 1, 3) := dk_132 4 1 (dk_at dksX8_lastLiterals_1 18 rfl rfl)
theorem dX8_lastLiterals_45 : decode cX8_lastLiterals 45 = .ok (.bipush (-16), 2) := dk_16 240 (dk_at dksX8_lastLiterals_1 21 rfl rfl)
theorem dX8_lastLiterals_47 : decode cX8_lastLiterals 47 = .ok (.bastore, 1) := dk_84 (dk_at dksX8_lastLiterals_1 23 rfl rfl)
theorem dX8_lastLiterals_48 : decode cX8_lastLiterals 48 = .ok (.iload 6, 2) := dk_21 6 (dk_at dksX8_lastLiterals_2 0 rfl rfl)
theorem dX8_lastLiterals_50 : decode cX8_lastLiterals 50 = .ok (.bipush 15, 2) := dk_16 15 (dk_at dksX8_lastLiterals_2 2 rfl rfl)
theorem dX8_lastLiterals_52 : decode cX8_lastLiterals 52 = .ok (.isub, 1) := dk_100 (dk_at dksX8_lastLiterals_2 4 rfl rfl)
theorem dX8_lastLiterals_53 : decode cX8_lastLiterals 53 = .ok (.aload_n 3, 1) := dk_45 (dk_at dksX8_lastLiterals_2 5 rfl rfl)
theorem dX8_lastLiterals_54 : decode cX8_lastLiterals 54 = .ok (.iload 4, 2) := dk_21 4 (dk_at dksX8_lastLiterals_2 6 rfl rfl)
theorem dX8_lastLiterals_56 : decode cX8_lastLiterals 56 = .ok (.invokestatic 56, 3) := dk_184 0 56 (dk_at dksX8_lastLiterals_2 8 rfl rfl)
theorem dX8_lastLiterals_59 : decode cX8_lastLiterals 59 = .ok (.istore 4, 2) := dk_54 4 (dk_at dksX8_lastLiterals_2 11 rfl rfl)
theorem dX8_lastLiterals_61 : decode cX8_lastLiterals 61 = .ok (.goto 15, 3) := dk_167 0 15 (dk_at dksX8_lastLiterals_2 13 rfl rfl)
theorem dX8_lastLiterals_64 : decode cX8_lastLiterals 64 = .ok (.aload_n 3, 1) := dk_45 (dk_at dksX8_lastLiterals_2 16 rfl rfl)
theorem dX8_lastLiterals_65 : decode cX8_lastLiterals 65 = .ok (.iload 4, 2) := dk_21 4 (dk_at dksX8_lastLiterals_2 17 rfl rfl)
theorem dX8_lastLiterals_67 : decode cX8_lastLiterals 67 = .ok (.iinc 4 1, 3) := dk_132 4 1 (dk_at dksX8_lastLiterals_2 19 rfl rfl)
theorem dX8_lastLiterals_70 : decode cX8_lastLiterals 70 = .ok (.iload 6, 2) := dk_21 6 (dk_at dksX8_lastLiterals_2 22 rfl rfl)
theorem dX8_lastLiterals_72 : decode cX8_lastLiterals 72 = .ok (.iconst 4, 1) := dk_7 (dk_at dksX8_lastLiterals_3 0 rfl rfl)
theorem dX8_lastLiterals_73 : decode cX8_lastLiterals 73 = .ok (.ishl, 1) := dk_120 (dk_at dksX8_lastLiterals_3 1 rfl rfl)
theorem dX8_lastLiterals_74 : decode cX8_lastLiterals 74 = .ok (.i2b, 1) := dk_145 (dk_at dksX8_lastLiterals_3 2 rfl rfl)
theorem dX8_lastLiterals_75 : decode cX8_lastLiterals 75 = .ok (.bastore, 1) := dk_84 (dk_at dksX8_lastLiterals_3 3 rfl rfl)
theorem dX8_lastLiterals_76 : decode cX8_lastLiterals 76 = .ok (.aload_n 0, 1) := dk_42 (dk_at dksX8_lastLiterals_3 4 rfl rfl)
theorem dX8_lastLiterals_77 : decode cX8_lastLiterals 77 = .ok (.iload_n 1, 1) := dk_27 (dk_at dksX8_lastLiterals_3 5 rfl rfl)
theorem dX8_lastLiterals_78 : decode cX8_lastLiterals 78 = .ok (.aload_n 3, 1) := dk_45 (dk_at dksX8_lastLiterals_3 6 rfl rfl)
theorem dX8_lastLiterals_79 : decode cX8_lastLiterals 79 = .ok (.iload 4, 2) := dk_21 4 (dk_at dksX8_lastLiterals_3 7 rfl rfl)
theorem dX8_lastLiterals_81 : decode cX8_lastLiterals 81 = .ok (.iload 6, 2) := dk_21 6 (dk_at dksX8_lastLiterals_3 9 rfl rfl)
theorem dX8_lastLiterals_83 : decode cX8_lastLiterals 83 = .ok (.invokestatic 26, 3) := dk_184 0 26 (dk_at dksX8_lastLiterals_3 11 rfl rfl)
theorem dX8_lastLiterals_86 : decode cX8_lastLiterals 86 = .ok (.iload 4, 2) := dk_21 4 (dk_at dksX8_lastLiterals_3 14 rfl rfl)
theorem dX8_lastLiterals_88 : decode cX8_lastLiterals 88 = .ok (.iload 6, 2) := dk_21 6 (dk_at dksX8_lastLiterals_3 16 rfl rfl)
theorem dX8_lastLiterals_90 : decode cX8_lastLiterals 90 = .ok (.iadd, 1) := dk_96 (dk_at dksX8_lastLiterals_3 18 rfl rfl)
theorem dX8_lastLiterals_91 : decode cX8_lastLiterals 91 = .ok (.istore 4, 2) := dk_54 4 (dk_at dksX8_lastLiterals_3 19 rfl rfl)
theorem dX8_lastLiterals_93 : decode cX8_lastLiterals 93 = .ok (.iload 4, 2) := dk_21 4 (dk_at dksX8_lastLiterals_3 21 rfl rfl)
theorem dX8_lastLiterals_95 : decode cX8_lastLiterals 95 = .ok (.ireturn, 1) := dk_172 (dk_at dksX8_lastLiterals_3 23 rfl rfl)
abbrev cX8_safeArraycopy : ByteArray := prog_10_method_10_code
def yX8_safeArraycopy : MethodName := ⟨RX8, "safeArraycopy", "([BI[BII)V"⟩
def dkwX8_safeArraycopy_0 : List UInt8 := [42, 27, 44, 29, 21, 4, 184, 0, 26, 177]
abbrev dktX8_safeArraycopy_0 : List UInt8 := dkwX8_safeArraycopy_0 ++ []
theorem dksX8_safeArraycopy_0 : cX8_safeArraycopy.data.toList.drop 0 = dktX8_safeArraycopy_0 := by decide +kernel
theorem dX8_safeArraycopy_0 : decode cX8_safeArraycopy 0 = .ok (.aload_n 0, 1) := dk_42 (dk_at dksX8_safeArraycopy_0 0 rfl rfl)
theorem dX8_safeArraycopy_1 : decode cX8_safeArraycopy 1 = .ok (.iload_n 1, 1) := dk_27 (dk_at dksX8_safeArraycopy_0 1 rfl rfl)
theorem dX8_safeArraycopy_2 : decode cX8_safeArraycopy 2 = .ok (.aload_n 2, 1) := dk_44 (dk_at dksX8_safeArraycopy_0 2 rfl rfl)
theorem dX8_safeArraycopy_3 : decode cX8_safeArraycopy 3 = .ok (.iload_n 3, 1) := dk_29 (dk_at dksX8_safeArraycopy_0 3 rfl rfl)
theorem dX8_safeArraycopy_4 : decode cX8_safeArraycopy 4 = .ok (.iload 4, 2) := dk_21 4 (dk_at dksX8_safeArraycopy_0 4 rfl rfl)
theorem dX8_safeArraycopy_6 : decode cX8_safeArraycopy 6 = .ok (.invokestatic 26, 3) := dk_184 0 26 (dk_at dksX8_safeArraycopy_0 6 rfl rfl)
theorem dX8_safeArraycopy_9 : decode cX8_safeArraycopy 9 = .ok (.return_, 1) := dk_177 (dk_at dksX8_safeArraycopy_0 9 rfl rfl)
abbrev cX8_safeIncrementalCopy : ByteArray := prog_10_method_5_code
def yX8_safeIncrementalCopy : MethodName := ⟨RX8, "safeIncrementalCopy", "([BIII)V"⟩
def dkwX8_safeIncrementalCopy_1 : List UInt8 := [167, 255, 235, 177]
abbrev dktX8_safeIncrementalCopy_1 : List UInt8 := dkwX8_safeIncrementalCopy_1 ++ []
def dkwX8_safeIncrementalCopy_0 : List UInt8 := [3, 54, 4, 21, 4, 29, 162, 0, 21, 42, 28, 21, 4, 96, 42, 27, 21, 4, 96, 51, 84, 132, 4, 1]
abbrev dktX8_safeIncrementalCopy_0 : List UInt8 := dkwX8_safeIncrementalCopy_0 ++ dktX8_safeIncrementalCopy_1
theorem dksX8_safeIncrementalCopy_0 : cX8_safeIncrementalCopy.data.toList.drop 0 = dktX8_safeIncrementalCopy_0 := by decide +kernel
theorem dksX8_safeIncrementalCopy_1 : cX8_safeIncrementalCopy.data.toList.drop 24 = dktX8_safeIncrementalCopy_1 := dk_seg dksX8_safeIncrementalCopy_0 24 rfl rfl
theorem dX8_safeIncrementalCopy_0 : decode cX8_safeIncrementalCopy 0 = .ok (.iconst 0, 1) := dk_3 (dk_at dksX8_safeIncrementalCopy_0 0 rfl rfl)
theorem dX8_safeIncrementalCopy_1 : decode cX8_safeIncrementalCopy 1 = .ok (.istore 4, 2) := dk_54 4 (dk_at dksX8_safeIncrementalCopy_0 1 rfl rfl)
theorem dX8_safeIncrementalCopy_3 : decode cX8_safeIncrementalCopy 3 = .ok (.iload 4, 2) := dk_21 4 (dk_at dksX8_safeIncrementalCopy_0 3 rfl rfl)
theorem dX8_safeIncrementalCopy_5 : decode cX8_safeIncrementalCopy 5 = .ok (.iload_n 3, 1) := dk_29 (dk_at dksX8_safeIncrementalCopy_0 5 rfl rfl)
theorem dX8_safeIncrementalCopy_6 : decode cX8_safeIncrementalCopy 6 = .ok (.if_icmp .ge 21, 3) := dk_162 0 21 (dk_at dksX8_safeIncrementalCopy_0 6 rfl rfl)
theorem dX8_safeIncrementalCopy_9 : decode cX8_safeIncrementalCopy 9 = .ok (.aload_n 0, 1) := dk_42 (dk_at dksX8_safeIncrementalCopy_0 9 rfl rfl)
theorem dX8_safeIncrementalCopy_10 : decode cX8_safeIncrementalCopy 10 = .ok (.iload_n 2, 1) := dk_28 (dk_at dksX8_safeIncrementalCopy_0 10 rfl rfl)
theorem dX8_safeIncrementalCopy_11 : decode cX8_safeIncrementalCopy 11 = .ok (.iload 4, 2) := dk_21 4 (dk_at dksX8_safeIncrementalCopy_0 11 rfl rfl)
theorem dX8_safeIncrementalCopy_13 : decode cX8_safeIncrementalCopy 13 = .ok (.iadd, 1) := dk_96 (dk_at dksX8_safeIncrementalCopy_0 13 rfl rfl)
theorem dX8_safeIncrementalCopy_14 : decode cX8_safeIncrementalCopy 14 = .ok (.aload_n 0, 1) := dk_42 (dk_at dksX8_safeIncrementalCopy_0 14 rfl rfl)
theorem dX8_safeIncrementalCopy_15 : decode cX8_safeIncrementalCopy 15 = .ok (.iload_n 1, 1) := dk_27 (dk_at dksX8_safeIncrementalCopy_0 15 rfl rfl)
theorem dX8_safeIncrementalCopy_16 : decode cX8_safeIncrementalCopy 16 = .ok (.iload 4, 2) := dk_21 4 (dk_at dksX8_safeIncrementalCopy_0 16 rfl rfl)
theorem dX8_safeIncrementalCopy_18 : decode cX8_safeIncrementalCopy 18 = .ok (.iadd, 1) := dk_96 (dk_at dksX8_safeIncrementalCopy_0 18 rfl rfl)
theorem dX8_safeIncrementalCopy_19 : decode cX8_safeIncrementalCopy 19 = .ok (.baload, 1) := dk_51 (dk_at dksX8_safeIncrementalCopy_0 19 rfl rfl)
theorem dX8_safeIncrementalCopy_20 : decode cX8_safeIncrementalCopy 20 = .ok (.bastore, 1) := dk_84 (dk_at dksX8_safeIncrementalCopy_0 20 rfl rfl)
theorem dX8_safeIncrementalCopy_21 : decode cX8_safeIncrementalCopy 21 = .ok (.iinc 4 1, 3) := dk_132 4 1 (dk_at dksX8_safeIncrementalCopy_0 21 rfl rfl)
theorem dX8_safeIncrementalCopy_24 : decode cX8_safeIncrementalCopy 24 = .ok (.goto (-21), 3) := dk_167 255 235 (dk_at dksX8_safeIncrementalCopy_1 0 rfl rfl)
theorem dX8_safeIncrementalCopy_27 : decode cX8_safeIncrementalCopy 27 = .ok (.return_, 1) := dk_177 (dk_at dksX8_safeIncrementalCopy_1 3 rfl rfl)
abbrev cX8_wildIncrementalCopy : ByteArray := prog_10_method_6_code
def yX8_wildIncrementalCopy : MethodName := ⟨RX8, "wildIncrementalCopy", "([BIII)V"⟩
def dkwX8_wildIncrementalCopy_0 : List UInt8 := [42, 27, 42, 28, 184, 0, 22, 132, 1, 8, 132, 2, 8, 28, 29, 161, 255, 241, 177]
abbrev dktX8_wildIncrementalCopy_0 : List UInt8 := dkwX8_wildIncrementalCopy_0 ++ []
theorem dksX8_wildIncrementalCopy_0 : cX8_wildIncrementalCopy.data.toList.drop 0 = dktX8_wildIncrementalCopy_0 := by decide +kernel
theorem dX8_wildIncrementalCopy_0 : decode cX8_wildIncrementalCopy 0 = .ok (.aload_n 0, 1) := dk_42 (dk_at dksX8_wildIncrementalCopy_0 0 rfl rfl)
theorem dX8_wildIncrementalCopy_1 : decode cX8_wildIncrementalCopy 1 = .ok (.iload_n 1, 1) := dk_27 (dk_at dksX8_wildIncrementalCopy_0 1 rfl rfl)
theorem dX8_wildIncrementalCopy_2 : decode cX8_wildIncrementalCopy 2 = .ok (.aload_n 0, 1) := dk_42 (dk_at dksX8_wildIncrementalCopy_0 2 rfl rfl)
theorem dX8_wildIncrementalCopy_3 : decode cX8_wildIncrementalCopy 3 = .ok (.iload_n 2, 1) := dk_28 (dk_at dksX8_wildIncrementalCopy_0 3 rfl rfl)
theorem dX8_wildIncrementalCopy_4 : decode cX8_wildIncrementalCopy 4 = .ok (.invokestatic 22, 3) := dk_184 0 22 (dk_at dksX8_wildIncrementalCopy_0 4 rfl rfl)
theorem dX8_wildIncrementalCopy_7 : decode cX8_wildIncrementalCopy 7 = .ok (.iinc 1 8, 3) := dk_132 1 8 (dk_at dksX8_wildIncrementalCopy_0 7 rfl rfl)
theorem dX8_wildIncrementalCopy_10 : decode cX8_wildIncrementalCopy 10 = .ok (.iinc 2 8, 3) := dk_132 2 8 (dk_at dksX8_wildIncrementalCopy_0 10 rfl rfl)
theorem dX8_wildIncrementalCopy_13 : decode cX8_wildIncrementalCopy 13 = .ok (.iload_n 2, 1) := dk_28 (dk_at dksX8_wildIncrementalCopy_0 13 rfl rfl)
theorem dX8_wildIncrementalCopy_14 : decode cX8_wildIncrementalCopy 14 = .ok (.iload_n 3, 1) := dk_29 (dk_at dksX8_wildIncrementalCopy_0 14 rfl rfl)
theorem dX8_wildIncrementalCopy_15 : decode cX8_wildIncrementalCopy 15 = .ok (.if_icmp .lt (-15), 3) := dk_161 255 241 (dk_at dksX8_wildIncrementalCopy_0 15 rfl rfl)
theorem dX8_wildIncrementalCopy_18 : decode cX8_wildIncrementalCopy 18 = .ok (.return_, 1) := dk_177 (dk_at dksX8_wildIncrementalCopy_0 18 rfl rfl)
theorem q19 : (Jvm.Cond.initialized "LZ4SafeUtils") ∈ lw_all := lw_g (lw_at lw_m1 17 rfl) rfl
theorem q236 : (Jvm.Cond.static ({ cls := "LZ4SafeUtils", name := "readIntEquals", desc := "([BII)Z" } : Jvm.MethodName)) ∈ lw_all := lw_g (lw_at lw_m1 234 rfl) rfl
theorem q237 : (Jvm.Cond.code ({ cls := "LZ4SafeUtils", name := "readIntEquals", desc := "([BII)Z" } : Jvm.MethodName) prog_10_method_4_code (3 : Nat) (Option.some Jvm.ClassFile.FieldType.boolean)) ∈ lw_all := lw_g (lw_at lw_m1 235 rfl) rfl
theorem q239 : (Jvm.Cond.static ({ cls := "LZ4SafeUtils", name := "commonBytesBackward", desc := "([BIIII)I" } : Jvm.MethodName)) ∈ lw_all := lw_g (lw_at lw_m1 237 rfl) rfl
theorem q240 : (Jvm.Cond.code ({ cls := "LZ4SafeUtils", name := "commonBytesBackward", desc := "([BIIII)I" } : Jvm.MethodName) prog_10_method_9_code (6 : Nat) (Option.some Jvm.ClassFile.FieldType.int)) ∈ lw_all := lw_g (lw_at lw_m1 238 rfl) rfl
theorem q276 : (Jvm.Cond.static ({ cls := "LZ4SafeUtils", name := "writeLen", desc := "(I[BI)I" } : Jvm.MethodName)) ∈ lw_all := lw_g (lw_at lw_m2 34 rfl) rfl
theorem q277 : (Jvm.Cond.code ({ cls := "LZ4SafeUtils", name := "writeLen", desc := "(I[BI)I" } : Jvm.MethodName) prog_10_method_13_code (3 : Nat) (Option.some Jvm.ClassFile.FieldType.int)) ∈ lw_all := lw_g (lw_at lw_m2 35 rfl) rfl
theorem q279 : (Jvm.Cond.static ({ cls := "LZ4SafeUtils", name := "wildArraycopy", desc := "([BI[BII)V" } : Jvm.MethodName)) ∈ lw_all := lw_g (lw_at lw_m2 37 rfl) rfl
theorem q280 : (Jvm.Cond.codeWith ({ cls := "LZ4SafeUtils", name := "wildArraycopy", desc := "([BI[BII)V" } : Jvm.MethodName) prog_10_method_11_code (6 : Nat) (Option.none : Option Jvm.ClassFile.FieldType) [((0 : Nat), (29 : Nat), (32 : Nat), (32 : Nat))]) ∈ lw_all := lw_g (lw_at lw_m2 38 rfl) rfl
theorem q281 : (Jvm.Cond.classLink "LZ4SafeUtils" (32 : Nat) "java/lang/ArrayIndexOutOfBoundsException") ∈ lw_all := lw_g (lw_at lw_m2 39 rfl) rfl
theorem q287 : (Jvm.Cond.methodLink "LZ4SafeUtils" (22 : Nat) ({ cls := "LZ4SafeUtils", name := "copy8Bytes", desc := "([BI[BI)V" } : Jvm.MethodName)) ∈ lw_all := lw_g (lw_at lw_m2 45 rfl) rfl
theorem q288 : (Jvm.Cond.static ({ cls := "LZ4SafeUtils", name := "copy8Bytes", desc := "([BI[BI)V" } : Jvm.MethodName)) ∈ lw_all := lw_g (lw_at lw_m2 46 rfl) rfl
theorem q289 : (Jvm.Cond.code ({ cls := "LZ4SafeUtils", name := "copy8Bytes", desc := "([BI[BI)V" } : Jvm.MethodName) prog_10_method_7_code (5 : Nat) (Option.none : Option Jvm.ClassFile.FieldType)) ∈ lw_all := lw_g (lw_at lw_m2 47 rfl) rfl
theorem q290 : (Jvm.Cond.classLink "LZ4SafeUtils" (34 : Nat) "LZ4Exception") ∈ lw_all := lw_g (lw_at lw_m2 48 rfl) rfl
theorem q291 : (Jvm.Cond.stringRef "LZ4SafeUtils" (36 : Nat) "left out") ∈ lw_tbl := lw_at lw_m2 49 rfl
theorem q292 : (Jvm.Cond.methodLink "LZ4SafeUtils" (38 : Nat) ({ cls := "LZ4Exception", name := "<init>", desc := "(Ljava/lang/String;)V" } : Jvm.MethodName)) ∈ lw_all := lw_g (lw_at lw_m2 50 rfl) rfl
theorem q297 : (Jvm.Cond.static ({ cls := "LZ4SafeUtils", name := "commonBytes", desc := "([BIII)I" } : Jvm.MethodName)) ∈ lw_all := lw_g (lw_at lw_m2 55 rfl) rfl
theorem q298 : (Jvm.Cond.code ({ cls := "LZ4SafeUtils", name := "commonBytes", desc := "([BIII)I" } : Jvm.MethodName) prog_10_method_8_code (5 : Nat) (Option.some Jvm.ClassFile.FieldType.int)) ∈ lw_all := lw_g (lw_at lw_m2 56 rfl) rfl
theorem q304 : (Jvm.Cond.static ({ cls := "LZ4SafeUtils", name := "lastLiterals", desc := "([BII[BII)I" } : Jvm.MethodName)) ∈ lw_all := lw_g (lw_at lw_m2 62 rfl) rfl
theorem q305 : (Jvm.Cond.code ({ cls := "LZ4SafeUtils", name := "lastLiterals", desc := "([BII[BII)I" } : Jvm.MethodName) prog_10_method_12_code (7 : Nat) (Option.some Jvm.ClassFile.FieldType.int)) ∈ lw_all := lw_g (lw_at lw_m2 63 rfl) rfl
theorem q306 : (Jvm.Cond.methodLink "LZ4SafeUtils" (41 : Nat) ({ cls := "LZ4Utils", name := "lengthOfEncodedInteger", desc := "(I)I" } : Jvm.MethodName)) ∈ lw_all := lw_g (lw_at lw_m2 64 rfl) rfl
theorem q307 : (Jvm.Cond.methodLink "LZ4SafeUtils" (47 : Nat) ({ cls := "LZ4Utils", name := "notEnoughSpace", desc := "(II)Z" } : Jvm.MethodName)) ∈ lw_all := lw_g (lw_at lw_m2 65 rfl) rfl
theorem q308 : (Jvm.Cond.methodLink "LZ4SafeUtils" (51 : Nat) ({ cls := "LZ4Exception", name := "<init>", desc := "()V" } : Jvm.MethodName)) ∈ lw_all := lw_g (lw_at lw_m2 66 rfl) rfl
theorem q318 : (Jvm.Cond.methodLink "LZ4SafeUtils" (56 : Nat) ({ cls := "LZ4SafeUtils", name := "writeLen", desc := "(I[BI)I" } : Jvm.MethodName)) ∈ lw_all := lw_g (lw_at lw_m2 76 rfl) rfl
theorem q319 : (Jvm.Cond.methodLink "LZ4SafeUtils" (26 : Nat) ({ cls := "java/lang/System", name := "arraycopy", desc := "(Ljava/lang/Object;ILjava/lang/Object;II)V" } : Jvm.MethodName)) ∈ lw_all := lw_g (lw_at lw_m2 77 rfl) rfl
theorem q356 : (Jvm.Cond.static ({ cls := "LZ4SafeUtils", name := "safeArraycopy", desc := "([BI[BII)V" } : Jvm.MethodName)) ∈ lw_all := lw_g (lw_at lw_m2 114 rfl) rfl
theorem q357 : (Jvm.Cond.code ({ cls := "LZ4SafeUtils", name := "safeArraycopy", desc := "([BI[BII)V" } : Jvm.MethodName) prog_10_method_10_code (5 : Nat) (Option.none : Option Jvm.ClassFile.FieldType)) ∈ lw_all := lw_g (lw_at lw_m2 115 rfl) rfl
theorem q607 : (Jvm.Cond.static ({ cls := "LZ4SafeUtils", name := "safeIncrementalCopy", desc := "([BIII)V" } : Jvm.MethodName)) ∈ lw_all := lw_g (lw_at lw_m3 125 rfl) rfl
theorem q608 : (Jvm.Cond.code ({ cls := "LZ4SafeUtils", name := "safeIncrementalCopy", desc := "([BIII)V" } : Jvm.MethodName) prog_10_method_5_code (5 : Nat) (Option.none : Option Jvm.ClassFile.FieldType)) ∈ lw_all := lw_g (lw_at lw_m3 126 rfl) rfl
theorem q610 : (Jvm.Cond.static ({ cls := "LZ4SafeUtils", name := "wildIncrementalCopy", desc := "([BIII)V" } : Jvm.MethodName)) ∈ lw_all := lw_g (lw_at lw_m3 128 rfl) rfl
theorem q611 : (Jvm.Cond.code ({ cls := "LZ4SafeUtils", name := "wildIncrementalCopy", desc := "([BIII)V" } : Jvm.MethodName) prog_10_method_6_code (4 : Nat) (Option.none : Option Jvm.ClassFile.FieldType)) ∈ lw_all := lw_g (lw_at lw_m3 129 rfl) rfl
theorem q22 : (Jvm.Cond.initialized "java/lang/System") ∈ lw_all := lw_g (lw_at lw_m1 20 rfl) rfl
set_option maxRecDepth 100000
theorem q320 : (Jvm.Cond.static ({ cls := "java/lang/System", name := "arraycopy", desc := "(Ljava/lang/Object;ILjava/lang/Object;II)V" } : Jvm.MethodName)) ∈ lw_all := lw_g (lw_at lw_m2 78 rfl) rfl
theorem q321 : (Jvm.Cond.native ({ cls := "java/lang/System", name := "arraycopy", desc := "(Ljava/lang/Object;ILjava/lang/Object;II)V" } : Jvm.MethodName)) ∈ lw_all := lw_g (lw_at lw_m2 79 rfl) rfl
theorem q17 : (Jvm.Cond.initialized "LZ4Constants") ∈ lw_all := lw_g (lw_at lw_m1 15 rfl) rfl
set_option maxRecDepth 100000
theorem q217 : (Jvm.Cond.laysStatic "LZ4Constants" "SKIP_STRENGTH" "I") ∈ lw_tbl := lw_at lw_m1 215 rfl
theorem q86 : (Jvm.Cond.arrayClass Jvm.ClassFile.FieldType.byte) ∈ lw_all := lw_g (lw_at lw_m1 84 rfl) rfl
set_option maxRecDepth 100000
theorem q265 : (Jvm.Cond.arrayClass Jvm.ClassFile.FieldType.short) ∈ lw_all := lw_g (lw_at lw_m2 23 rfl) rfl
theorem q335 : (Jvm.Cond.arrayClass Jvm.ClassFile.FieldType.int) ∈ lw_all := lw_g (lw_at lw_m2 93 rfl) rfl
/-! java/lang/Object -/
set_option maxRecDepth 100000
def RJ16 : String := "java/lang/Object"
abbrev cJ16_init : ByteArray := object_method_1_code
def yJ16_init : MethodName := ⟨RJ16, "<init>", "()V"⟩
theorem dJ16_init_0 : decode cJ16_init 0 = .ok (.return_, 1) := by decide +kernel
theorem q39 : (Jvm.Cond.instanceMethod ({ cls := "java/lang/Object", name := "<init>", desc := "()V" } : Jvm.MethodName)) ∈ lw_all := lw_g (lw_at lw_m1 37 rfl) rfl
theorem q40 : (Jvm.Cond.code ({ cls := "java/lang/Object", name := "<init>", desc := "()V" } : Jvm.MethodName) object_method_1_code (1 : Nat) (Option.none : Option Jvm.ClassFile.FieldType)) ∈ lw_all := lw_g (lw_at lw_m1 38 rfl) rfl
theorem q443 : (Jvm.Cond.native ({ cls := "java/lang/Object", name := "clone", desc := "()Ljava/lang/Object;" } : Jvm.MethodName)) ∈ lw_all := lw_g (lw_at lw_m2 201 rfl) rfl
theorem q444 : (Jvm.Cond.instanceMethod ({ cls := "java/lang/Object", name := "clone", desc := "()Ljava/lang/Object;" } : Jvm.MethodName)) ∈ lw_all := lw_g (lw_at lw_m2 202 rfl) rfl
theorem q687 : (Jvm.Cond.initialized "java/lang/Object") ∈ lw_all := lw_g (lw_at lw_m3 205 rfl) rfl
end
section
/-! LZ4Compressor -/
set_option maxRecDepth 100000
def RX1 : String := "LZ4Compressor"
abbrev cX1_init : ByteArray := prog_4_method_1_code
def yX1_init : MethodName := ⟨RX1, "<init>", "()V"⟩
theorem dX1_init_0 : decode cX1_init 0 = .ok (.aload_n 0, 1) := by decide +kernel
theorem dX1_init_1 : decode cX1_init 1 = .ok (.invokespecial 1, 3) := by decide +kernel
theorem dX1_init_4 : decode cX1_init 4 = .ok (.return_, 1) := by decide +kernel
theorem q4 : (Jvm.Cond.initialized "LZ4Compressor") ∈ lw_all := lw_g (lw_at lw_m1 2 rfl) rfl
theorem q47 : (Jvm.Cond.instanceMethod ({ cls := "LZ4Compressor", name := "<init>", desc := "()V" } : Jvm.MethodName)) ∈ lw_all := lw_g (lw_at lw_m1 45 rfl) rfl
theorem q48 : (Jvm.Cond.code ({ cls := "LZ4Compressor", name := "<init>", desc := "()V" } : Jvm.MethodName) prog_4_method_1_code (1 : Nat) (Option.none : Option Jvm.ClassFile.FieldType)) ∈ lw_all := lw_g (lw_at lw_m1 46 rfl) rfl
theorem q49 : (Jvm.Cond.methodLink "LZ4Compressor" (1 : Nat) ({ cls := "java/lang/Object", name := "<init>", desc := "()V" } : Jvm.MethodName)) ∈ lw_all := lw_g (lw_at lw_m1 47 rfl) rfl
theorem q113 : (Jvm.Cond.declares ({ cls := "LZ4Compressor", name := "compress", desc := "([BII[BII)I" } : Jvm.MethodName)) ∈ lw_tbl := lw_at lw_m1 111 rfl
theorem q114 : (Jvm.Cond.sameMethod "LZ4Compressor" "LZ4Compressor" "compress" "([BII[BII)I") ∈ lw_all := lw_g (lw_at lw_m1 112 rfl) rfl
/-! LZ4JavaSafeCompressor -/
set_option maxRecDepth 100000
def RX2 : String := "LZ4JavaSafeCompressor"
abbrev cX2_init : ByteArray := prog_7_method_1_code
def yX2_init : MethodName := ⟨RX2, "<init>", "()V"⟩
theorem dX2_init_0 : decode cX2_init 0 = .ok (.aload_n 0, 1) := by decide +kernel
theorem dX2_init_1 : decode cX2_init 1 = .ok (.invokespecial 1, 3) := by decide +kernel
theorem dX2_init_4 : decode cX2_init 4 = .ok (.return_, 1) := by decide +kernel
abbrev cX2_compress : ByteArray := prog_7_method_3_code
def yX2_compress : MethodName := ⟨RX2, "compress", "([BII[BII)I"⟩
def dkwX2_compress_25 : List UInt8 := [21, 12, 21, 5, 100, 172]
abbrev dktX2_compress_25 : List UInt8 := dkwX2_compress_25 ++ []
def dkwX2_compress_24 : List UInt8 := [54, 13, 167, 254, 37, 43, 21, 13, 21, 8, 21, 13, 100, 25, 4, 21, 12, 21, 7, 184, 0, 84, 54, 12]
abbrev dktX2_compress_24 : List UInt8 := dkwX2_compress_24 ++ dktX2_compress_25
def dkwX2_compress_23 : List UInt8 := [21, 12, 132, 12, 1, 54, 22, 25, 4, 21, 22, 3, 184, 0, 58, 167, 255, 27, 21, 11, 132, 11, 1]
abbrev dktX2_compress_23 : List UInt8 := dkwX2_compress_23 ++ dktX2_compress_24
def dkwX2_compress_22 : List UInt8 := [54, 19, 21, 19, 18, 113, 162, 0, 35, 43, 21, 16, 21, 11, 184, 0, 33, 154, 0, 6, 167, 0, 21]
abbrev dktX2_compress_22 : List UInt8 := dkwX2_compress_22 ++ dktX2_compress_23
def dkwX2_compress_21 : List UInt8 := [25, 14, 21, 24, 184, 0, 106, 54, 16, 25, 14, 21, 24, 21, 11, 184, 0, 109, 21, 11, 21, 16, 100]
abbrev dktX2_compress_21 : List UInt8 := dkwX2_compress_21 ++ dktX2_compress_22
def dkwX2_compress_20 : List UInt8 := [184, 0, 13, 184, 0, 103, 21, 11, 5, 100, 184, 0, 109, 43, 21, 11, 184, 0, 13, 184, 0, 103, 54, 24]
abbrev dktX2_compress_20 : List UInt8 := dkwX2_compress_20 ++ dktX2_compress_21
def dkwX2_compress_19 : List UInt8 := [184, 0, 58, 21, 11, 21, 10, 164, 0, 10, 21, 11, 54, 13, 167, 0, 108, 25, 14, 43, 21, 11, 5, 100]
abbrev dktX2_compress_19 : List UInt8 := dkwX2_compress_19 ++ dktX2_compress_20
def dkwX2_compress_18 : List UInt8 := [21, 12, 184, 0, 62, 54, 12, 167, 0, 20, 25, 4, 21, 22, 25, 4, 21, 22, 184, 0, 80, 21, 23, 128]
abbrev dktX2_compress_18 : List UInt8 := dkwX2_compress_18 ++ dktX2_compress_19
def dkwX2_compress_17 : List UInt8 := [25, 4, 21, 22, 25, 4, 21, 22, 184, 0, 80, 16, 15, 128, 184, 0, 58, 21, 23, 16, 15, 100, 25, 4]
abbrev dktX2_compress_17 : List UInt8 := dkwX2_compress_17 ++ dktX2_compress_18
def dkwX2_compress_16 : List UInt8 := [187, 0, 51, 89, 18, 53, 183, 0, 55, 191, 21, 11, 21, 23, 96, 54, 11, 21, 23, 16, 15, 161, 0, 37]
abbrev dktX2_compress_16 : List UInt8 := dkwX2_compress_16 ++ dktX2_compress_17
def dkwX2_compress_15 : List UInt8 := [184, 0, 73, 54, 23, 21, 7, 21, 12, 100, 16, 6, 21, 23, 184, 0, 77, 96, 184, 0, 47, 153, 0, 13]
abbrev dktX2_compress_15 : List UInt8 := dkwX2_compress_15 ++ dktX2_compress_16
def dkwX2_compress_14 : List UInt8 := [25, 4, 21, 12, 21, 19, 184, 0, 70, 132, 12, 2, 132, 11, 4, 43, 21, 16, 7, 96, 21, 11, 21, 9]
abbrev dktX2_compress_14 : List UInt8 := dkwX2_compress_14 ++ dktX2_compress_15
def dkwX2_compress_13 : List UInt8 := [120, 184, 0, 58, 43, 21, 13, 25, 4, 21, 12, 21, 21, 184, 0, 66, 21, 12, 21, 21, 96, 54, 12]
abbrev dktX2_compress_13 : List UInt8 := dkwX2_compress_13 ++ dktX2_compress_14
def dkwX2_compress_12 : List UInt8 := [21, 21, 16, 15, 100, 25, 4, 21, 12, 184, 0, 62, 54, 12, 167, 0, 14, 25, 4, 21, 22, 21, 21, 7]
abbrev dktX2_compress_12 : List UInt8 := dkwX2_compress_12 ++ dktX2_compress_13
def dkwX2_compress_11 : List UInt8 := [18, 53, 183, 0, 55, 191, 21, 21, 16, 15, 161, 0, 30, 25, 4, 21, 22, 17, 0, 240, 184, 0, 58]
abbrev dktX2_compress_11 : List UInt8 := dkwX2_compress_11 ++ dktX2_compress_12
def dkwX2_compress_10 : List UInt8 := [21, 12, 100, 21, 21, 3, 184, 0, 43, 4, 96, 8, 96, 184, 0, 47, 153, 0, 13, 187, 0, 51, 89]
abbrev dktX2_compress_10 : List UInt8 := dkwX2_compress_10 ++ dktX2_compress_11
def dkwX2_compress_9 : List UInt8 := [21, 16, 21, 20, 100, 54, 16, 21, 11, 21, 13, 100, 54, 21, 21, 12, 132, 12, 1, 54, 22, 21, 7]
abbrev dktX2_compress_9 : List UInt8 := dkwX2_compress_9 ++ dktX2_compress_10
def dkwX2_compress_8 : List UInt8 := [153, 255, 173, 43, 21, 16, 21, 11, 28, 21, 13, 184, 0, 39, 54, 20, 21, 11, 21, 20, 100, 54, 11]
abbrev dktX2_compress_8 : List UInt8 := dkwX2_compress_8 ++ dktX2_compress_9
def dkwX2_compress_7 : List UInt8 := [25, 14, 21, 20, 21, 11, 184, 0, 109, 21, 19, 18, 113, 162, 255, 184, 43, 21, 16, 21, 11, 184, 0, 33]
abbrev dktX2_compress_7 : List UInt8 := dkwX2_compress_7 ++ dktX2_compress_8
def dkwX2_compress_6 : List UInt8 := [184, 0, 13, 184, 0, 103, 54, 20, 25, 14, 21, 20, 184, 0, 106, 54, 16, 21, 11, 21, 16, 100, 54, 19]
abbrev dktX2_compress_6 : List UInt8 := dkwX2_compress_6 ++ dktX2_compress_7
def dkwX2_compress_5 : List UInt8 := [132, 18, 1, 178, 0, 9, 124, 54, 17, 21, 15, 21, 10, 164, 0, 6, 167, 1, 179, 43, 21, 11]
abbrev dktX2_compress_5 : List UInt8 := dkwX2_compress_5 ++ dktX2_compress_6
def dkwX2_compress_4 : List UInt8 := [54, 17, 4, 178, 0, 9, 120, 54, 18, 21, 15, 54, 11, 21, 15, 21, 17, 96, 54, 15, 21, 18]
abbrev dktX2_compress_4 : List UInt8 := dkwX2_compress_4 ++ dktX2_compress_5
def dkwX2_compress_3 : List UInt8 := [132, 11, 1, 54, 13, 17, 16, 0, 188, 10, 58, 14, 25, 14, 21, 13, 184, 0, 97, 21, 11, 54, 15, 4]
abbrev dktX2_compress_3 : List UInt8 := dkwX2_compress_3 ++ dktX2_compress_4
def dkwX2_compress_2 : List UInt8 := [21, 8, 8, 100, 54, 9, 21, 8, 16, 12, 100, 54, 10, 28, 54, 11, 21, 5, 54, 12, 21, 11]
abbrev dktX2_compress_2 : List UInt8 := dkwX2_compress_2 ++ dktX2_compress_3
def dkwX2_compress_1 : List UInt8 := [18, 91, 162, 0, 16, 43, 28, 29, 25, 4, 21, 5, 21, 7, 184, 0, 92, 172, 28, 29, 96, 54, 8]
abbrev dktX2_compress_1 : List UInt8 := dkwX2_compress_1 ++ dktX2_compress_2
def dkwX2_compress_0 : List UInt8 := [43, 28, 29, 184, 0, 88, 25, 4, 21, 5, 21, 6, 184, 0, 88, 21, 5, 21, 6, 96, 54, 7, 29]
abbrev dktX2_compress_0 : List UInt8 := dkwX2_compress_0 ++ dktX2_compress_1
theorem dksX2_compress_0 : cX2_compress.data.toList.drop 0 = dktX2_compress_0 := by decide +kernel
theorem dksX2_compress_1 : cX2_compress.data.toList.drop 23 = dktX2_compress_1 := dk_seg dksX2_compress_0 23 rfl rfl
theorem dksX2_compress_2 : cX2_compress.data.toList.drop 46 = dktX2_compress_2 := dk_seg dksX2_compress_1 23 rfl rfl
theorem dksX2_compress_3 : cX2_compress.data.toList.drop 68 = dktX2_compress_3 := dk_seg dksX2_compress_2 22 rfl rfl
theorem dksX2_compress_4 : cX2_compress.data.toList.drop 92 = dktX2_compress_4 := dk_seg dksX2_compress_3 24 rfl rfl
theorem dksX2_compress_5 : cX2_compress.data.toList.drop 114 = dktX2_compress_5 := dk_seg dksX2_compress_4 22 rfl rfl
theorem dksX2_compress_6 : cX2_compress.data.toList.drop 136 = dktX2_compress_6 := dk_seg dksX2_compress_5 22 rfl rfl
theorem dksX2_compress_7 : cX2_compress.data.toList.drop 160 = dktX2_compress_7 := dk_seg dksX2_compress_6 24 rfl rfl
theorem dksX2_compress_8 : cX2_compress.data.toList.drop 184 = dktX2_compress_8 := dk_seg dksX2_compress_7 24 rfl rfl
theorem dksX2_compress_9 : cX2_compress.data.toList.drop 207 = dktX2_compress_9 := dk_seg dksX2_compress_8 23 rfl rfl
theorem dksX2_compress_10 : cX2_compress.data.toList.drop 230 = dktX2_compress_10 := dk_seg dksX2_compress_9 23 rfl rfl
theorem dksX2_compress_11 : cX2_compress.data.toList.drop 253 = dktX2_compress_11 := dk_seg dksX2_compress_10 23 rfl rfl
theorem dksX2_compress_12 : cX2_compress.data.toList.drop 276 = dktX2_compress_12 := dk_seg dksX2_compress_11 23 rfl rfl
theorem dksX2_compress_13 : cX2_compress.data.toList.drop 300 = dktX2_compress_13 := dk_seg dksX2_compress_12 24 rfl rfl
theorem dksX2_compress_14 : cX2_compress.data.toList.drop 323 = dktX2_compress_14 := dk_seg dksX2_compress_13 23 rfl rfl
theorem dksX2_compress_15 : cX2_compress.data.toList.drop 347 = dktX2_compress_15 := dk_seg dksX2_compress_14 24 rfl rfl
theorem dksX2_compress_16 : cX2_compress.data.toList.drop 371 = dktX2_compress_16 := dk_seg dksX2_compress_15 24 rfl rfl
theorem dksX2_compress_17 : cX2_compress.data.toList.drop 395 = dktX2_compress_17 := dk_seg dksX2_compress_16 24 rfl rfl
theorem dksX2_compress_18 : cX2_compress.data.toList.drop 419 = dktX2_compress_18 := dk_seg dksX2_compress_17 24 rfl rfl
theorem dksX2_compress_19 : cX2_compress.data.toList.drop 443 = dktX2_compress_19 := dk_seg dksX2_compress_18 24 rfl rfl
theorem dksX2_compress_20 : cX2_compress.data.toList.drop 467 = dktX2_compress_20 := dk_seg dksX2_compress_19 24 rfl rfl
theorem dksX2_compress_21 : cX2_compress.data.toList.drop 491 = dktX2_compress_21 := dk_seg dksX2_compress_20 24 rfl rfl
theorem dksX2_compress_22 : cX2_compress.data.toList.drop 514 = dktX2_compress_22 := dk_seg dksX2_compress_21 23 rfl rfl
theorem dksX2_compress_23 : cX2_compress.data.toList.drop 537 = dktX2_compress_23 := dk_seg dksX2_compress_22 23 rfl rfl
theorem dksX2_compress_24 : cX2_compress.data.toList.drop 560 = dktX2_compress_24 := dk_seg dksX2_compress_23 23 rfl rfl
theorem dksX2_compress_25 : cX2_compress.data.toList.drop 584 = dktX2_compress_25 := dk_seg dksX2_compress_24 24 rfl rfl
theorem dX2_compress_0 : decode cX2_compress 0 = .ok (.aload_n 1, 1) := dk_43 (dk_at dksX2_compress_0 0 rfl rfl)
theorem dX2_compress_1 : decode cX2_compress 1 = .ok (.iload_n 2, 1) := dk_28 (dk_at dksX2_compress_0 1 rfl rfl)
theorem dX2_compress_2 : decode cX2_compress 2 = .ok (.iload_n 3, 1) := dk_29 (dk_at dksX2_compress_0 2 rfl rfl)
theorem dX2_compress_3 : decode cX2_compress 3 = .ok (.invokestatic 88, 3) := dk_184 0 88 (dk_at dksX2_compress_0 3 rfl rfl)
theorem dX2_compress_6 : decode cX2_compress 6 = .ok (.aload 4, 2) := dk_25 4 (dk_at dksX2_compress_0 6 rfl rfl)
theorem dX2_compress_8 : decode cX2_compress 8 = .ok (.iload 5, 2) := dk_21 5 (dk_at dksX2_compress_0 8 rfl rfl)
theorem dX2_compress_10 : decode cX2_compress 10 = .ok (.iload 6, 2) := dk_21 6 (dk_at dksX2_compress_0 10 rfl rfl)
theorem dX2_compress_12 : decode cX2_compress 12 = .ok (.invokestatic 88, 3) := dk_184 0 88 (dk_at dksX2_compress_0 12 rfl rfl)
theorem dX2_compress_15 : decode cX2_compress 15 = .ok (.iload 5, 2) := dk_21 5 (dk_at dksX2_compress_0 15 rfl rfl)
theorem dX2_compress_17 : decode cX2_compress 17 = .ok (.iload 6, 2) := dk_21 6 (dk_at dksX2_compress_0 17 rfl rfl)
theorem dX2_compress_19 : decode cX2_compress 19 = .ok (.iadd, 1) := dk_96 (dk_at dksX2_compress_0 19 rfl rfl)
theorem dX2_compress_20 : decode cX2_compress 20 = .ok (.istore 7, 2) := dk_54 7 (dk_at dksX2_compress_0 20 rfl rfl)
theorem dX2_compress_22 : decode cX2_compress 22 = .ok (.iload_n 3, 1) := dk_29 (dk_at dksX2_compress_0 22 rfl rfl)
theorem dX2_compress_23 : decode cX2_compress 23 = .ok (.ldc 91, 2) := dk_18 91 (dk_at dksX2_compress_1 0 rfl rfl)
theorem dX2_compress_25 : decode cX2_compress 25 = .ok (.if_icmp .ge 16, 3) := dk_162 0 16 (dk_at dksX2_compress_1 2 rfl rfl)
theorem dX2_compress_28 : decode cX2_compress 28 = .ok (.aload_n 1, 1) := dk_43 (dk_at dksX2_compress_1 5 rfl rfl)
theorem dX2_compress_29 : decode cX2_compress 29 = .ok (.iload_n 2, 1) := dk_28 (dk_at dksX2_compress_1 6 rfl rfl)
theorem dX2_compress_30 : decode cX2_compress 30 = .ok (.iload_n 3, 1) := dk_29 (dk_at dksX2_compress_1 7 rfl rfl)
theorem dX2_compress_31 : decode cX2_compress 31 = .ok (.aload 4, 2) := dk_25 4 (dk_at dksX2_compress_1 8 rfl rfl)
theorem dX2_compress_33 : decode cX2_compress 33 = .ok (.iload 5, 2) := dk_21 5 (dk_at dksX2_compress_1 10 rfl rfl)
theorem dX2_compress_35 : decode cX2_compress 35 = .ok (.iload 7, 2) := dk_21 7 (dk_at dksX2_compress_1 12 rfl rfl)
theorem dX2_compress_37 : decode cX2_compress 37 = .ok (.invokestatic 92, 3) := dk_184 0 92 (dk_at dksX2_compress_1 14 rfl rfl)
theorem dX2_compress_40 : decode cX2_compress 40 = .ok (.ireturn, 1) := dk_172 (dk_at dksX2_compress_1 17 rfl rfl)
theorem dX2_compress_41 : decode cX2_compress 41 = .ok (.iload_n 2, 1) := dk_28 (dk_at dksX2_compress_1 18 rfl rfl)
theorem dX2_compress_42 : decode cX2_compress 42 = .ok (.iload_n 3, 1) := dk_29 (dk_at dksX2_compress_1 19 rfl rfl)
theorem dX2_compress_43 : decode cX2_compress 43 = .ok (.iadd, 1) := dk_96 (dk_at dksX2_compress_1 20 rfl rfl)
theorem dX2_compress_44 : decode cX2_compress 44 = .ok (.istore 8, 2) := dk_54 8 (dk_at dksX2_compress_1 21 rfl rfl)
theorem dX2_compress_46 : decode cX2_compress 46 = .ok (.iload 8, 2) := dk_21 8 (dk_at dksX2_compress_2 0 rfl rfl)
theorem dX2_compress_48 : decode cX2_compress 48 = .ok (.iconst 5, 1) := dk_8 (dk_at dksX2_compress_2 2 rfl rfl)
theorem dX2_compress_49 : decode cX2_compress 49 = .ok (.isub, 1) := dk_100 (dk_at dksX2_compress_2 3 rfl rfl)
theorem dX2_compress_50 : decode cX2_compress 50 = .ok (.istore 9, 2) := dk_54 9 (dk_at dksX2_compress_2 4 rfl rfl)
theorem dX2_compress_52 : decode cX2_compress 52 = .ok (.iload 8, 2) := dk_21 8 (dk_at dksX2_compress_2 6 rfl rfl)
theorem dX2_compress_54 : decode cX2_compress 54 = .ok (.bipush 12, 2) := dk_16 12 (dk_at dksX2_compress_2 8 rfl rfl)
theorem dX2_compress_56 : decode cX2_compress 56 = .ok (.isub, 1) := dk_100 (dk_at dksX2_compress_2 10 rfl rfl)
theorem dX2_compress_57 : decode cX2_compress 57 = .ok (.istore 10, 2) := dk_54 10 (dk_at dksX2_compress_2 11 rfl rfl)
theorem dX2_compress_59 : decode cX2_compress 59 = .ok (.iload_n 2, 1) := dk_28 (dk_at dksX2_compress_2 13 rfl rfl)
theorem dX2_compress_60 : decode cX2_compress 60 = .ok (.istore 11, 2) := dk_54 11 (dk_at dksX2_compress_2 14 rfl rfl)
theorem dX2_compress_62 : decode cX2_compress 62 = .ok (.iload 5, 2) := dk_21 5 (dk_at dksX2_compress_2 16 rfl rfl)
theorem dX2_compress_64 : decode cX2_compress 64 = .ok (.istore 12, 2) := dk_54 12 (dk_at dksX2_compress_2 18 rfl rfl)
theorem dX2_compress_66 : decode cX2_compress 66 = .ok (.iload 11, 2) := dk_21 11 (dk_at dksX2_compress_2 20 rfl rfl)
theorem dX2_compress_68 : decode cX2_compress 68 = .ok (.iinc 11 1, 3) := dk_132 11 1 (dk_at dksX2_compress_3 0 rfl rfl)
theorem dX2_compress_71 : decode cX2_compress 71 = .ok (.istore 13, 2) := dk_54 13 (dk_at dksX2_compress_3 3 rfl rfl)
theorem dX2_compress_73 : decode cX2_compress 73 = .ok (.sipush 4096, 3) := dk_17 16 0 (dk_at dksX2_compress_3 5 rfl rfl)
theorem dX2_compress_76 : decode cX2_compress 76 = .ok (.newarray .int, 2) := dk_188_10 (dk_at dksX2_compress_3 8 rfl rfl)
theorem dX2_compress_78 : decode cX2_compress 78 = .ok (.astore 14, 2) := dk_58 14 (dk_at dksX2_compress_3 10 rfl rfl)
theorem dX2_compress_80 : decode cX2_compress 80 = .ok (.aload 14, 2) := dk_25 14 (dk_at dksX2_compress_3 12 rfl rfl)
theorem dX2_compress_82 : decode cX2_compress 82 = .ok (.iload 13, 2) := dk_21 13 (dk_at dksX2_compress_3 14 rfl rfl)
theorem dX2_compress_84 : decode cX2_compress 84 = .ok (.invokestatic 97, 3) := dk_184 0 97 (dk_at dksX2_compress_3 16 rfl rfl)
theorem dX2_compress_87 : decode cX2_compress 87 = .ok (.iload 11, 2) := dk_21 11 (dk_at dksX2_compress_3 19 rfl rfl)
theorem dX2_compress_89 : decode cX2_compress 89 = .ok (.istore 15, 2) := dk_54 15 (dk_at dksX2_compress_3 21 rfl rfl)
theorem dX2_compress_91 : decode cX2_compress 91 = .ok (.iconst 1, 1) := dk_4 (dk_at dksX2_compress_3 23 rfl rfl)
theorem dX2_compress_92 : decode cX2_compress 92 = .ok (.istore 17, 2) := dk_54 17 (dk_at dksX2_compress_4 0 rfl rfl)
theorem dX2_compress_94 : decode cX2_compress 94 = .ok (.iconst 1, 1) := dk_4 (dk_at dksX2_compress_4 2 rfl rfl)
theorem dX2_compress_95 : decode cX2_compress 95 = .ok (.getstatic 9, 3) := dk_178 0 9 (dk_at dksX2_compress_4 3 rfl rfl)
theorem dX2_compress_98 : decode cX2_compress 98 = .ok (.ishl, 1) := dk_120 (dk_at dksX2_compress_4 6 rfl rfl)
theorem dX2_compress_99 : decode cX2_compress 99 = .ok (.istore 18, 2) := dk_54 18 (dk_at dksX2_compress_4 7 rfl rfl)
theorem dX2_compress_101 : decode cX2_compress 101 = .ok (.iload 15, 2) := dk_21 15 (dk_at dksX2_compress_4 9 rfl rfl)
theorem dX2_compress_103 : decode cX2_compress 103 = .ok (.istore 11, 2) := dk_54 11 (dk_at dksX2_compress_4 11 rfl rfl)
theorem dX2_compress_105 : decode cX2_compress 105 = .ok (.iload 15, 2) := dk_21 15 (dk_at dksX2_compress_4 13 rfl rfl)
theorem dX2_compress_107 : decode cX2_compress 107 = .ok (.iload 17, 2) := dk_21 17 (dk_at dksX2_compress_4 15 rfl rfl)
theorem dX2_compress_109 : decode cX2_compress 109 = .ok (.iadd, 1) := dk_96 (dk_at dksX2_compress_4 17 rfl rfl)
theorem dX2_compress_110 : decode cX2_compress 110 = .ok (.istore 15, 2) := dk_54 15 (dk_at dksX2_compress_4 18 rfl rfl)
theorem dX2_compress_112 : decode cX2_compress 112 = .ok (.iload 18, 2) := dk_21 18 (dk_at dksX2_compress_4 20 rfl rfl)
theorem dX2_compress_114 : decode cX2_compress 114 = .ok (.iinc 18 1, 3) := dk_132 18 1 (dk_at dksX2_compress_5 0 rfl rfl)
theorem dX2_compress_117 : decode cX2_compress 117 = .ok (.getstatic 9, 3) := dk_178 0 9 (dk_at dksX2_compress_5 3 rfl rfl)
theorem dX2_compress_120 : decode cX2_compress 120 = .ok (.iushr, 1) := dk_124 (dk_at dksX2_compress_5 6 rfl rfl)
theorem dX2_compress_121 : decode cX2_compress 121 = .ok (.istore 17, 2) := dk_54 17 (dk_at dksX2_compress_5 7 rfl rfl)
theorem dX2_compress_123 : decode cX2_compress 123 = .ok (.iload 15, 2) := dk_21 15 (dk_at dksX2_compress_5 9 rfl rfl)
theorem dX2_compress_125 : decode cX2_compress 125 = .ok (.iload 10, 2) := dk_21 10 (dk_at dksX2_compress_5 11 rfl rfl)
theorem dX2_compress_127 : decode cX2_compress 127 = .ok (.if_icmp .le 6, 3) := dk_164 0 6 (dk_at dksX2_compress_5 13 rfl rfl)
theorem dX2_compress_130 : decode cX2_compress 130 = .ok (.goto 435, 3) := dk_167 1 179 (dk_at dksX2_compress_5 16 rfl rfl)
theorem dX2_compress_133 : decode cX2_compress 133 = .ok (.aload_n 1, 1) := dk_43 (dk_at dksX2_compress_5 19 rfl rfl)
theorem dX2_compress_134 : decode cX2_compress 134 = .ok (.iload 11, 2) := dk_21 11 (dk_at dksX2_compress_5 20 rfl rfl)
theorem dX2_compress_136 : decode cX2_compress 136 = .ok (.invokestatic 13, 3) := dk_184 0 13 (dk_at dksX2_compress_6 0 rfl rfl)
theorem dX2_compress_139 : decode cX2_compress 139 = .ok (.invokestatic 103, 3) := dk_184 0 103 (dk_at dksX2_compress_6 3 rfl rfl)
theorem dX2_compress_142 : decode cX2_compress 142 = .ok (.istore 20, 2) := dk_54 20 (dk_at dksX2_compress_6 6 rfl rfl)
theorem dX2_compress_144 : decode cX2_compress 144 = .ok (.aload 14, 2) := dk_25 14 (dk_at dksX2_compress_6 8 rfl rfl)
theorem dX2_compress_146 : decode cX2_compress 146 = .ok (.iload 20, 2) := dk_21 20 (dk_at dksX2_compress_6 10 rfl rfl)
theorem dX2_compress_148 : decode cX2_compress 148 = .ok (.invokestatic 106, 3) := dk_184 0 106 (dk_at dksX2_compress_6 12 rfl rfl)
theorem dX2_compress_151 : decode cX2_compress 151 = .ok (.istore 16, 2) := dk_54 16 (dk_at dksX2_compress_6 15 rfl rfl)
theorem dX2_compress_153 : decode cX2_compress 153 = .ok (.iload 11, 2) := dk_21 11 (dk_at dksX2_compress_6 17 rfl rfl)
theorem dX2_compress_155 : decode cX2_compress 155 = .ok (.iload 16, 2) := dk_21 16 (dk_at dksX2_compress_6 19 rfl rfl)
theorem dX2_compress_157 : decode cX2_compress 157 = .ok (.isub, 1) := dk_100 (dk_at dksX2_compress_6 21 rfl rfl)
theorem dX2_compress_158 : decode cX2_compress 158 = .ok (.istore 19, 2) := dk_54 19 (dk_at dksX2_compress_6 22 rfl rfl)
theorem dX2_compress_160 : decode cX2_compress 160 = .ok (.aload 14, 2) := dk_25 14 (dk_at dksX2_compress_7 0 rfl rfl)
theorem dX2_compress_162 : decode cX2_compress 162 = .ok (.iload 20, 2) := dk_21 20 (dk_at dksX2_compress_7 2 rfl rfl)
theorem dX2_compress_164 : decode cX2_compress 164 = .ok (.iload 11, 2) := dk_21 11 (dk_at dksX2_compress_7 4 rfl rfl)
theorem dX2_compress_166 : decode cX2_compress 166 = .ok (.invokestatic 109, 3) := dk_184 0 109 (dk_at dksX2_compress_7 6 rfl rfl)
theorem dX2_compress_169 : decode cX2_compress 169 = .ok (.iload 19, 2) := dk_21 19 (dk_at dksX2_compress_7 9 rfl rfl)
theorem dX2_compress_171 : decode cX2_compress 171 = .ok (.ldc 113, 2) := dk_18 113 (dk_at dksX2_compress_7 11 rfl rfl)
theorem dX2_compress_173 : decode cX2_compress 173 = .ok (.if_icmp .ge (-72), 3) := dk_162 255 184 (dk_at dksX2_compress_7 13 rfl rfl)
theorem dX2_compress_176 : decode cX2_compress 176 = .ok (.aload_n 1, 1) := dk_43 (dk_at dksX2_compress_7 16 rfl rfl)
theorem dX2_compress_177 : decode cX2_compress 177 = .ok (.iload 16, 2) := dk_21 16 (dk_at dksX2_compress_7 17 rfl rfl)
theorem dX2_compress_179 : decode cX2_compress 179 = .ok (.iload 11, 2) := dk_21 11 (dk_at dksX2_compress_7 19 rfl rfl)
theorem dX2_compress_181 : decode cX2_compress 181 = .ok (.invokestatic 33, 3) := dk_184 0 33 (dk_at dksX2_compress_7 21 rfl rfl)
theorem dX2_compress_184 : decode cX2_compress 184 = .ok (.ifCond .eq (-83), 3) := dk_153 255 173 (dk_at dksX2_compress_8 0 rfl rfl)
theorem dX2_compress_187 : decode cX2_compress 187 = .ok (.aload_n 1, 1) := dk_43 (dk_at dksX2_compress_8 3 rfl rfl)
theorem dX2_compress_188 : decode cX2_compress 188 = .ok (.iload 16, 2) := dk_21 16 (dk_at dksX2_compress_8 4 rfl rfl)
theorem dX2_compress_190 : decode cX2_compress 190 = .ok (.iload 11, 2) := dk_21 11 (dk_at dksX2_compress_8 6 rfl rfl)
theorem dX2_compress_192 : decode cX2_compress 192 = .ok (.iload_n 2, 1) := dk_28 (dk_at dksX2_compress_8 8 rfl rfl)
theorem dX2_compress_193 : decode cX2_compress 193 = .ok (.iload 13, 2) := dk_21 13 (dk_at dksX2_compress_8 9 rfl rfl)
theorem dX2_compress_195 : decode cX2_compress 195 = .ok (.invokestatic 39, 3) := dk_184 0 39 (dk_at dksX2_compress_8 11 rfl rfl)
theorem dX2_compress_198 : decode cX2_compress 198 = .ok (.istore 20, 2) := dk_54 20 (dk_at dksX2_compress_8 14 rfl rfl)
theorem dX2_compress_200 : decode cX2_compress 200 = .ok (.iload 11, 2) := dk_21 11 (dk_at dksX2_compress_8 16 rfl rfl)
theorem dX2_compress_202 : decode cX2_compress 202 = .ok (.iload 20, 2) := dk_21 20 (dk_at dksX2_compress_8 18 rfl rfl)
theorem dX2_compress_204 : decode cX2_compress 204 = .ok (.isub, 1) := dk_100 (dk_at dksX2_compress_8 20 rfl rfl)
theorem dX2_compress_205 : decode cX2_compress 205 = .ok (.istore 11, 2) := dk_54 11 (dk_at dksX2_compress_8 21 rfl rfl)
theorem dX2_compress_207 : decode cX2_compress 207 = .ok (.iload 16, 2) := dk_21 16 (dk_at dksX2_compress_9 0 rfl rfl)
theorem dX2_compress_209 : decode cX2_compress 209 = .ok (.iload 20, 2) := dk_21 20 (dk_at dksX2_compress_9 2 rfl rfl)
theorem dX2_compress_211 : decode cX2_compress 211 = .ok (.isub, 1) := dk_100 (dk_at dksX2_compress_9 4 rfl rfl)
theorem dX2_compress_212 : decode cX2_compress 212 = .ok (.istore 16, 2) := dk_54 16 (dk_at dksX2_compress_9 5 rfl rfl)
theorem dX2_compress_214 : decode cX2_compress 214 = .ok (.iload 11, 2) := dk_21 11 (dk_at dksX2_compress_9 7 rfl rfl)
theorem dX2_compress_216 : decode cX2_compress 216 = .ok (.iload 13, 2) := dk_21 13 (dk_at dksX2_compress_9 9 rfl rfl)
theorem dX2_compress_218 : decode cX2_compress 218 = .ok (.isub, 1) := dk_100 (dk_at dksX2_compress_9 11 rfl rfl)
theorem dX2_compress_219 : decode cX2_compress 219 = .ok (.istore 21, 2) := dk_54 21 (dk_at dksX2_compress_9 12 rfl rfl)
theorem dX2_compress_221 : decode cX2_compress 221 = .ok (.iload 12, 2) := dk_21 12 (dk_at dksX2_compress_9 14 rfl rfl)
theorem dX2_compress_223 : decode cX2_compress 223 = .ok (.iinc 12 1, 3) := dk_132 12 1 (dk_at dksX2_compress_9 16 rfl rfl)
theorem dX2_compress_226 : decode cX2_compress 226 = .ok (.istore 22, 2) := dk_54 22 (dk_at dksX2_compress_9 19 rfl rfl)
theorem dX2_compress_228 : decode cX2_compress 228 = .ok (.iload 7, 2) := dk_21 7 (dk_at dksX2_compress_9 21 rfl rfl)
theorem dX2_compress_230 : decode cX2_compress 230 = .ok (.iload 12, 2) := dk_21 12 (dk_at dksX2_compress_10 0 rfl rfl)
theorem dX2_compress_232 : decode cX2_compress 232 = .ok (.isub, 1) := dk_100 (dk_at dksX2_compress_10 2 rfl rfl)
theorem dX2_compress_233 : decode cX2_compress 233 = .ok (.iload 21, 2) := dk_21 21 (dk_at dksX2_compress_10 3 rfl rfl)
theorem dX2_compress_235 : decode cX2_compress 235 = .ok (.iconst 0, 1) := dk_3 (dk_at dksX2_compress_10 5 rfl rfl)
theorem dX2_compress_236 : decode cX2_compress 236 = .ok (.invokestatic 43, 3) := dk_184 0 43 (dk_at dksX2_compress_10 6 rfl rfl)
theorem dX2_compress_239 : decode cX2_compress 239 = .ok (.iconst 1, 1) := dk_4 (dk_at dksX2_compress_10 9 rfl rfl)
theorem dX2_compress_240 : decode cX2_compress 240 = .ok (.iadd, 1) := dk_96 (dk_at dksX2_compress_10 10 rfl rfl)
theorem dX2_compress_241 : decode cX2_compress 241 = .ok (.iconst 5, 1) := dk_8 (dk_at dksX2_compress_10 11 rfl rfl)
theorem dX2_compress_242 : decode cX2_compress 242 = .ok (.iadd, 1) := dk_96 (dk_at dksX2_compress_10 12 rfl rfl)
theorem dX2_compress_243 : decode cX2_compress 243 = .ok (.invokestatic 47, 3) := dk_184 0 47 (dk_at dksX2_compress_10 13 rfl rfl)
theorem dX2_compress_246 : decode cX2_compress 246 = .ok (.ifCond .eq 13, 3) := dk_153 0 13 (dk_at dksX2_compress_10 16 rfl rfl)
theorem dX2_compress_249 : decode cX2_compress 249 = .ok (.new 51, 3) := dk_187 0 51 (dk_at dksX2_compress_10 19 rfl rfl)
theorem dX2_compress_252 : decode cX2_compress 252 = .ok (.dup, 1) := dk_89 (dk_at dksX2_compress_10 22 rfl rfl)
theorem dX2_compress_253 : decode cX2_compress 253 = .ok (.ldc 53, 2) := dk_18 53 (dk_at dksX2_compress_11 0 rfl rfl)
theorem dX2_compress_255 : decode cX2_compress 255 = .ok (.invokespecial 55, 3) := dk_183 0 55 (dk_at dksX2_compress_11 2 rfl rfl)
theorem dX2_compress_258 : decode cX2_compress 258 = .ok (.athrow, 1) := dk_191 (dk_at dksX2_compress_11 5 rfl rfl)
theorem dX2_compress_259 : decode cX2_compress 259 = .ok (.iload 21, 2) := dk_21 21 (dk_at dksX2_compress_11 6 rfl rfl)
theorem dX2_compress_261 : decode cX2_compress 261 = .ok (.bipush 15, 2) := dk_16 15 (dk_at dksX2_compress_11 8 rfl rfl)
theorem dX2_compress_263 : decode cX2_compress 263 = .ok (.if_icmp .lt 30, 3) := dk_161 0 30 (dk_at dksX2_compress_11 10 rfl rfl)
theorem dX2_compress_266 : decode cX2_compress 266 = .ok (.aload 4, 2) := dk_25 4 (dk_at dksX2_compress_11 13 rfl rfl)
theorem dX2_compress_268 : decode cX2_compress 268 = .ok (.iload 22, 2) := dk_21 22 (dk_at dksX2_compress_11 15 rfl rfl)
theorem dX2_compress_270 : decode cX2_compress 270 = .ok (.sipush 240, 3) := dk_17 0 240 (dk_at dksX2_compress_11 17 rfl rfl)
theorem dX2_compress_273 : decode cX2_compress 273 = .ok (.invokestatic 58, 3) := dk_184 0 58 (dk_at dksX2_compress_11 20 rfl rfl)
theorem dX2_compress_276 : decode cX2_compress 276 = .ok (.iload 21, 2) := dk_21 21 (dk_at dksX2_compress_12 0 rfl rfl)
theorem dX2_compress_278 : decode cX2_compress 278 = .ok (.bipush 15, 2) := dk_16 15 (dk_at dksX2_compress_12 2 rfl rfl)
theorem dX2_compress_280 : decode cX2_compress 280 = .ok (.isub, 1) := dk_100 (dk_at dksX2_compress_12 4 rfl rfl)
theorem dX2_compress_281 : decode cX2_compress 281 = .ok (.aload 4, 2) := dk_25 4 (dk_at dksX2_compress_12 5 rfl rfl)
theorem dX2_compress_283 : decode cX2_compress 283 = .ok (.iload 12, 2) := dk_21 12 (dk_at dksX2_compress_12 7 rfl rfl)
theorem dX2_compress_285 : decode cX2_compress 285 = .ok (.invokestatic 62, 3) := dk_184 0 62 (dk_at dksX2_compress_12 9 rfl rfl)
theorem dX2_compress_288 : decode cX2_compress 288 = .ok (.istore 12, 2) := dk_54 12 (dk_at dksX2_compress_12 12 rfl rfl)
theorem dX2_compress_290 : decode cX2_compress 290 = .ok (.goto 14, 3) := dk_167 0 14 (dk_at dksX2_compress_12 14 rfl rfl)
theorem dX2_compress_293 : decode cX2_compress 293 = .ok (.aload 4, 2) := dk_25 4 (dk_at dksX2_compress_12 17 rfl rfl)
theorem dX2_compress_295 : decode cX2_compress 295 = .ok (.iload 22, 2) := dk_21 22 (dk_at dksX2_compress_12 19 rfl rfl)
theorem dX2_compress_297 : decode cX2_compress 297 = .ok (.iload 21, 2) := dk_21 21 (dk_at dksX2_compress_12 21 rfl rfl)
theorem dX2_compress_299 : decode cX2_compress 299 = .ok (.iconst 4, 1) := dk_7 (dk_at dksX2_compress_12 23 rfl rfl)
theorem dX2_compress_300 : decode cX2_compress 300 = .ok (.ishl, 1) := dk_120 (dk_at dksX2_compress_13 0 rfl rfl)
theorem dX2_compress_301 : decode cX2_compress 301 = .ok (.invokestatic 58, 3) := dk_184 0 58 (dk_at dksX2_compress_13 1 rfl rfl)
theorem dX2_compress_304 : decode cX2_compress 304 = .ok (.aload_n 1, 1) := dk_43 (dk_at dksX2_compress_13 4 rfl rfl)
theorem dX2_compress_305 : decode cX2_compress 305 = .ok (.iload 13, 2) := dk_21 13 (dk_at dksX2_compress_13 5 rfl rfl)
theorem dX2_compress_307 : decode cX2_compress 307 = .ok (.aload 4, 2) := dk_25 4 (dk_at dksX2_compress_13 7 rfl rfl)
theorem dX2_compress_309 : decode cX2_compress 309 = .ok (.iload 12, 2) := dk_21 12 (dk_at dksX2_compress_13 9 rfl rfl)
theorem dX2_compress_311 : decode cX2_compress 311 = .ok (.iload 21, 2) := dk_21 21 (dk_at dksX2_compress_13 11 rfl rfl)
theorem dX2_compress_313 : decode cX2_compress 313 = .ok (.invokestatic 66, 3) := dk_184 0 66 (dk_at dksX2_compress_13 13 rfl rfl)
theorem dX2_compress_316 : decode cX2_compress 316 = .ok (.iload 12, 2) := dk_21 12 (dk_at dksX2_compress_13 16 rfl rfl)
theorem dX2_compress_318 : decode cX2_compress 318 = .ok (.iload 21, 2) := dk_21 21 (dk_at dksX2_compress_13 18 rfl rfl)
theorem dX2_compress_320 : decode cX2_compress 320 = .ok (.iadd, 1) := dk_96 (dk_at dksX2_compress_13 20 rfl rfl)
theorem dX2_compress_321 : decode cX2_compress 321 = .ok (.istore 12, 2) := dk_54 12 (dk_at dksX2_compress_13 21 rfl rfl)
theorem dX2_compress_323 : decode cX2_compress 323 = .ok (.aload 4, 2) := dk_25 4 (dk_at dksX2_compress_14 0 rfl rfl)
theorem dX2_compress_325 : decode cX2_compress 325 = .ok (.iload 12, 2) := dk_21 12 (dk_at dksX2_compress_14 2 rfl rfl)
theorem dX2_compress_327 : decode cX2_compress 327 = .ok (.iload 19, 2) := dk_21 19 (dk_at dksX2_compress_14 4 rfl rfl)
theorem dX2_compress_329 : decode cX2_compress 329 = .ok (.invokestatic 70, 3) := dk_184 0 70 (dk_at dksX2_compress_14 6 rfl rfl)
theorem dX2_compress_332 : decode cX2_compress 332 = .ok (.iinc 12 2, 3) := dk_132 12 2 (dk_at dksX2_compress_14 9 rfl rfl)
theorem dX2_compress_335 : decode cX2_compress 335 = .ok (.iinc 11 4, 3) := dk_132 11 4 (dk_at dksX2_compress_14 12 rfl rfl)
theorem dX2_compress_338 : decode cX2_compress 338 = .ok (.aload_n 1, 1) := dk_43 (dk_at dksX2_compress_14 15 rfl rfl)
theorem dX2_compress_339 : decode cX2_compress 339 = .ok (.iload 16, 2) := dk_21 16 (dk_at dksX2_compress_14 16 rfl rfl)
theorem dX2_compress_341 : decode cX2_compress 341 = .ok (.iconst 4, 1) := dk_7 (dk_at dksX2_compress_14 18 rfl rfl)
theorem dX2_compress_342 : decode cX2_compress 342 = .ok (.iadd, 1) := dk_96 (dk_at dksX2_compress_14 19 rfl rfl)
theorem dX2_compress_343 : decode cX2_compress 343 = .ok (.iload 11, 2) := dk_21 11 (dk_at dksX2_compress_14 20 rfl rfl)
theorem dX2_compress_345 : decode cX2_compress 345 = .ok (.iload 9, 2) := dk_21 9 (dk_at dksX2_compress_14 22 rfl rfl)
theorem dX2_compress_347 : decode cX2_compress 347 = .ok (.invokestatic 73, 3) := dk_184 0 73 (dk_at dksX2_compress_15 0 rfl rfl)
theorem dX2_compress_350 : decode cX2_compress 350 = .ok (.istore 23, 2) := dk_54 23 (dk_at dksX2_compress_15 3 rfl rfl)
theorem dX2_compress_352 : decode cX2_compress 352 = .ok (.iload 7, 2) := dk_21 7 (dk_at dksX2_compress_15 5 rfl rfl)
theorem dX2_compress_354 : decode cX2_compress 354 = .ok (.iload 12, 2) := dk_21 12 (dk_at dksX2_compress_15 7 rfl rfl)
theorem dX2_compress_356 : decode cX2_compress 356 = .ok (.isub, 1) := dk_100 (dk_at dksX2_compress_15 9 rfl rfl)
theorem dX2_compress_357 : decode cX2_compress 357 = .ok (.bipush 6, 2) := dk_16 6 (dk_at dksX2_compress_15 10 rfl rfl)
theorem dX2_compress_359 : decode cX2_compress 359 = .ok (.iload 23, 2) := dk_21 23 (dk_at dksX2_compress_15 12 rfl rfl)
theorem dX2_compress_361 : decode cX2_compress 361 = .ok (.invokestatic 77, 3) := dk_184 0 77 (dk_at dksX2_compress_15 14 rfl rfl)
theorem dX2_compress_364 : decode cX2_compress 364 = .ok (.iadd, 1) := dk_96 (dk_at dksX2_compress_15 17 rfl rfl)
theorem dX2_compress_365 : decode cX2_compress 365 = .ok (.invokestatic 47, 3) := dk_184 0 47 (dk_at dksX2_compress_15 18 rfl rfl)
theorem dX2_compress_368 : decode cX2_compress 368 = .ok (.ifCond .eq 13, 3) := dk_153 0 13 (dk_at dksX2_compress_15 21 rfl rfl)
theorem dX2_compress_371 : decode cX2_compress 371 = .ok (.new 51, 3) := dk_187 0 51 (dk_at dksX2_compress_16 0 rfl rfl)
theorem dX2_compress_374 : decode cX2_compress 374 = .ok (.dup, 1) := dk_89 (dk_at dksX2_compress_16 3 rfl rfl)
theorem dX2_compress_375 : decode cX2_compress 375 = .ok (.ldc 53, 2) := dk_18 53 (dk_at dksX2_compress_16 4 rfl rfl)
theorem dX2_compress_377 : decode cX2_compress 377 = .ok (.invokespecial 55, 3) := dk_183 0 55 (dk_at dksX2_compress_16 6 rfl rfl)
theorem dX2_compress_380 : decode cX2_compress 380 = .ok (.athrow, 1) := dk_191 (dk_at dksX2_compress_16 9 rfl rfl)
theorem dX2_compress_381 : decode cX2_compress 381 = .ok (.iload 11, 2) := dk_21 11 (dk_at dksX2_compress_16 10 rfl rfl)
theorem dX2_compress_383 : decode cX2_compress 383 = .ok (.iload 23, 2) := dk_21 23 (dk_at dksX2_compress_16 12 rfl rfl)
theorem dX2_compress_385 : decode cX2_compress 385 = .ok (.iadd, 1) := dk_96 (dk_at dksX2_compress_16 14 rfl rfl)
theorem dX2_compress_386 : decode cX2_compress 386 = .ok (.istore 11, 2) := dk_54 11 (dk_at dksX2_compress_16 15 rfl rfl)
theorem dX2_compress_388 : decode cX2_compress 388 = .ok (.iload 23, 2) := dk_21 23 (dk_at dksX2_compress_16 17 rfl rfl)
theorem dX2_compress_390 : decode cX2_compress 390 = .ok (.bipush 15, 2) := dk_16 15 (dk_at dksX2_compress_16 19 rfl rfl)
theorem dX2_compress_392 : decode cX2_compress 392 = .ok (.if_icmp .lt 37, 3) := dk_161 0 37 (dk_at dksX2_compress_16 21 rfl rfl)
theorem dX2_compress_395 : decode cX2_compress 395 = .ok (.aload 4, 2) := dk_25 4 (dk_at dksX2_compress_17 0 rfl rfl)
theorem dX2_compress_397 : decode cX2_compress 397 = .ok (.iload 22, 2) := dk_21 22 (dk_at dksX2_compress_17 2 rfl rfl)
theorem dX2_compress_399 : decode cX2_compress 399 = .ok (.aload 4, 2) := dk_25 4 (dk_at dksX2_compress_17 4 rfl rfl)
theorem dX2_compress_401 : decode cX2_compress 401 = .ok (.iload 22, 2) := dk_21 22 (dk_at dksX2_compress_17 6 rfl rfl)
theorem dX2_compress_403 : decode cX2_compress 403 = .ok (.invokestatic 80, 3) := dk_184 0 80 (dk_at dksX2_compress_17 8 rfl rfl)
theorem dX2_compress_406 : decode cX2_compress 406 = .ok (.bipush 15, 2) := dk_16 15 (dk_at dksX2_compress_17 11 rfl rfl)
theorem dX2_compress_408 : decode cX2_compress 408 = .ok (.ior, 1) := dk_128 (dk_at dksX2_compress_17 13 rfl rfl)
theorem dX2_compress_409 : decode cX2_compress 409 = .ok (.invokestatic 58, 3) := dk_184 0 58 (dk_at dksX2_compress_17 14 rfl rfl)
theorem dX2_compress_412 : decode cX2_compress 412 = .ok (.iload 23, 2) := dk_21 23 (dk_at dksX2_compress_17 17 rfl rfl)
theorem dX2_compress_414 : decode cX2_compress 414 = .ok (.bipush 15, 2) := dk_16 15 (dk_at dksX2_compress_17 19 rfl rfl)
theorem dX2_compress_416 : decode cX2_compress 416 = .ok (.isub, 1) := dk_100 (dk_at dksX2_compress_17 21 rfl rfl)
theorem dX2_compress_417 : decode cX2_compress 417 = .ok (.aload 4, 2) := dk_25 4 (dk_at dksX2_compress_17 22 rfl rfl)
theorem dX2_compress_419 : decode cX2_compress 419 = .ok (.iload 12, 2) := dk_21 12 (dk_at dksX2_compress_18 0 rfl rfl)
theorem dX2_compress_421 : decode cX2_compress 421 = .ok (.invokestatic 62, 3) := dk_184 0 62 (dk_at dksX2_compress_18 2 rfl rfl)
theorem dX2_compress_424 : decode cX2_compress 424 = .ok (.istore 12, 2) := dk_54 12 (dk_at dksX2_compress_18 5 rfl rfl)
theorem dX2_compress_426 : decode cX2_compress 426 = .ok (.goto 20, 3) := dk_167 0 20 (dk_at dksX2_compress_18 7 rfl rfl)
theorem dX2_compress_429 : decode cX2_compress 429 = .ok (.aload 4, 2) := dk_25 4 (dk_at dksX2_compress_18 10 rfl rfl)
theorem dX2_compress_431 : decode cX2_compress 431 = .ok (.iload 22, 2) := dk_21 22 (dk_at dksX2_compress_18 12 rfl rfl)
theorem dX2_compress_433 : decode cX2_compress 433 = .ok (.aload 4, 2) := dk_25 4 (dk_at dksX2_compress_18 14 rfl rfl)
theorem dX2_compress_435 : decode cX2_compress 435 = .ok (.iload 22, 2) := dk_21 22 (dk_at dksX2_compress_18 16 rfl rfl)
theorem dX2_compress_437 : decode cX2_compress 437 = .ok (.invokestatic 80, 3) := dk_184 0 80 (dk_at dksX2_compress_18 18 rfl rfl)
theorem dX2_compress_440 : decode cX2_compress 440 = .ok (.iload 23, 2) := dk_21 23 (dk_at dksX2_compress_18 21 rfl rfl)
theorem dX2_compress_442 : decode cX2_compress 442 = .ok (.ior, 1) := dk_128 (dk_at dksX2_compress_18 23 rfl rfl)
theorem dX2_compress_443 : decode cX2_compress 443 = .ok (.invokestatic 58, 3) := dk_184 0 58 (dk_at dksX2_compress_19 0 rfl rfl)
theorem dX2_compress_446 : decode cX2_compress 446 = .ok (.iload 11, 2) := dk_21 11 (dk_at dksX2_compress_19 3 rfl rfl)
theorem dX2_compress_448 : decode cX2_compress 448 = .ok (.iload 10, 2) := dk_21 10 (dk_at dksX2_compress_19 5 rfl rfl)
theorem dX2_compress_450 : decode cX2_compress 450 = .ok (.if_icmp .le 10, 3) := dk_164 0 10 (dk_at dksX2_compress_19 7 rfl rfl)
theorem dX2_compress_453 : decode cX2_compress 453 = .ok (.iload 11, 2) := dk_21 11 (dk_at dksX2_compress_19 10 rfl rfl)
theorem dX2_compress_455 : decode cX2_compress 455 = .ok (.istore 13, 2) := dk_54 13 (dk_at dksX2_compress_19 12 rfl rfl)
theorem dX2_compress_457 : decode cX2_compress 457 = .ok (.goto 108, 3) := dk_167 0 108 (dk_at dksX2_compress_19 14 rfl rfl)
theorem dX2_compress_460 : decode cX2_compress 460 = .ok (.aload 14, 2) := dk_25 14 (dk_at dksX2_compress_19 17 rfl rfl)
theorem dX2_compress_462 : decode cX2_compress 462 = .ok (.aload_n 1, 1) := dk_43 (dk_at dksX2_compress_19 19 rfl rfl)
theorem dX2_compress_463 : decode cX2_compress 463 = .ok (.iload 11, 2) := dk_21 11 (dk_at dksX2_compress_19 20 rfl rfl)
theorem dX2_compress_465 : decode cX2_compress 465 = .ok (.iconst 2, 1) := dk_5 (dk_at dksX2_compress_19 22 rfl rfl)
theorem dX2_compress_466 : decode cX2_compress 466 = .ok (.isub, 1) := dk_100 (dk_at dksX2_compress_19 23 rfl rfl)
theorem dX2_compress_467 : decode cX2_compress 467 = .ok (.invokestatic 13, 3) := dk_184 0 13 (dk_at dksX2_compress_20 0 rfl rfl)
theorem dX2_compress_470 : decode cX2_compress 470 = .ok (.invokestatic 103, 3) := dk_184 0 103 (dk_at dksX2_compress_20 3 rfl rfl)
theorem dX2_compress_473 : decode cX2_compress 473 = .ok (.iload 11, 2) := dk_21 11 (dk_at dksX2_compress_20 6 rfl rfl)
theorem dX2_compress_475 : decode cX2_compress 475 = .ok (.iconst 2, 1) := dk_5 (dk_at dksX2_compress_20 8 rfl rfl)
theorem dX2_compress_476 : decode cX2_compress 476 = .ok (.isub, 1) := dk_100 (dk_at dksX2_compress_20 9 rfl rfl)
theorem dX2_compress_477 : decode cX2_compress 477 = .ok (.invokestatic 109, 3) := dk_184 0 109 (dk_at dksX2_compress_20 10 rfl rfl)
theorem dX2_compress_480 : decode cX2_compress 480 = .ok (.aload_n 1, 1) := dk_43 (dk_at dksX2_compress_20 13 rfl rfl)
theorem dX2_compress_481 : decode cX2_compress 481 = .ok (.iload 11, 2) := dk_21 11 (dk_at dksX2_compress_20 14 rfl rfl)
theorem dX2_compress_483 : decode cX2_compress 483 = .ok (.invokestatic 13, 3) := dk_184 0 13 (dk_at dksX2_compress_20 16 rfl rfl)
theorem dX2_compress_486 : decode cX2_compress 486 = .ok (.invokestatic 103, 3) := dk_184 0 103 (dk_at dksX2_compress_20 19 rfl rfl)
theorem dX2_compress_489 : decode cX2_compress 489 = .ok (.istore 24, 2) := dk_54 24 (dk_at dksX2_compress_20 22 rfl rfl)
theorem dX2_compress_491 : decode cX2_compress 491 = .ok (.aload 14, 2) := dk_25 14 (dk_at dksX2_compress_21 0 rfl rfl)
theorem dX2_compress_493 : decode cX2_compress 493 = .ok (.iload 24, 2) := dk_21 24 (dk_at dksX2_compress_21 2 rfl rfl)
theorem dX2_compress_495 : decode cX2_compress 495 = .ok (.invokestatic 106, 3) := dk_184 0 106 (dk_at dksX2_compress_21 4 rfl rfl)
theorem dX2_compress_498 : decode cX2_compress 498 = .ok (.istore 16, 2) := dk_54 16 (dk_at dksX2_compress_21 7 rfl rfl)
theorem dX2_compress_500 : decode cX2_compress 500 = .ok (.aload 14, 2) := dk_25 14 (dk_at dksX2_compress_21 9 rfl rfl)
theorem dX2_compress_502 : decode cX2_compress 502 = .ok (.iload 24, 2) := dk_21 24 (dk_at dksX2_compress_21 11 rfl rfl)
theorem dX2_compress_504 : decode cX2_compress 504 = .ok (.iload 11, 2) := dk_21 11 (dk_at dksX2_compress_21 13 rfl rfl)
theorem dX2_compress_506 : decode cX2_compress 506 = .ok (.invokestatic 109, 3) := dk_184 0 109 (dk_at dksX2_compress_21 15 rfl rfl)
theorem dX2_compress_509 : decode cX2_compress 509 = .ok (.iload 11, 2) := dk_21 11 (dk_at dksX2_compress_21 18 rfl rfl)
theorem dX2_compress_511 : decode cX2_compress 511 = .ok (.iload 16, 2) := dk_21 16 (dk_at dksX2_compress_21 20 rfl rfl)
theorem dX2_compress_513 : decode cX2_compress 513 = .ok (.isub, 1) := dk_100 (dk_at dksX2_compress_21 22 rfl rfl)
theorem dX2_compress_514 : decode cX2_compress 514 = .ok (.istore 19, 2) := dk_54 19 (dk_at dksX2_compress_22 0 rfl rfl)
theorem dX2_compress_516 : decode cX2_compress 516 = .ok (.iload 19, 2) := dk_21 19 (dk_at dksX2_compress_22 2 rfl rfl)
theorem dX2_compress_518 : decode cX2_compress 518 = .ok (.ldc 113, 2) := dk_18 113 (dk_at dksX2_compress_22 4 rfl rfl)
theorem dX2_compress_520 : decode cX2_compress 520 = .ok (.if_icmp .ge 35, 3) := dk_162 0 35 (dk_at dksX2_compress_22 6 rfl rfl)
theorem dX2_compress_523 : decode cX2_compress 523 = .ok (.aload_n 1, 1) := dk_43 (dk_at dksX2_compress_22 9 rfl rfl)
theorem dX2_compress_524 : decode cX2_compress 524 = .ok (.iload 16, 2) := dk_21 16 (dk_at dksX2_compress_22 10 rfl rfl)
theorem dX2_compress_526 : decode cX2_compress 526 = .ok (.iload 11, 2) := dk_21 11 (dk_at dksX2_compress_22 12 rfl rfl)
theorem dX2_compress_528 : decode cX2_compress 528 = .ok (.invokestatic 33, 3) := dk_184 0 33 (dk_at dksX2_compress_22 14 rfl rfl)
theorem dX2_compress_531 : decode cX2_compress 531 = .ok (.ifCond .ne 6, 3) := dk_154 0 6 (dk_at dksX2_compress_22 17 rfl rfl)
theorem dX2_compress_534 : decode cX2_compress 534 = .ok (.goto 21, 3) := dk_167 0 21 (dk_at dksX2_compress_22 20 rfl rfl)
theorem dX2_compress_537 : decode cX2_compress 537 = .ok (.iload 12, 2) := dk_21 12 (dk_at dksX2_compress_23 0 rfl rfl)
theorem dX2_compress_539 : decode cX2_compress 539 = .ok (.iinc 12 1, 3) := dk_132 12 1 (dk_at dksX2_compress_23 2 rfl rfl)
theorem dX2_compress_542 : decode cX2_compress 542 = .ok (.istore 22, 2) := dk_54 22 (dk_at dksX2_compress_23 5 rfl rfl)
theorem dX2_compress_544 : decode cX2_compress 544 = .ok (.aload 4, 2) := dk_25 4 (dk_at dksX2_compress_23 7 rfl rfl)
theorem dX2_compress_546 : decode cX2_compress 546 = .ok (.iload 22, 2) := dk_21 22 (dk_at dksX2_compress_23 9 rfl rfl)
theorem dX2_compress_548 : decode cX2_compress 548 = .ok (.iconst 0, 1) := dk_3 (dk_at dksX2_compress_23 11 rfl rfl)
theorem dX2_compress_549 : decode cX2_compress 549 = .ok (.invokestatic 58, 3) := dk_184 0 58 (dk_at dksX2_compress_23 12 rfl rfl)
theorem dX2_compress_552 : decode cX2_compress 552 = .ok (.goto (-229), 3) := dk_167 255 27 (dk_at dksX2_compress_23 15 rfl rfl)
theorem dX2_compress_555 : decode cX2_compress 555 = .ok (.iload 11, 2) := dk_21 11 (dk_at dksX2_compress_23 18 rfl rfl)
theorem dX2_compress_557 : decode cX2_compress 557 = .ok (.iinc 11 1, 3) := dk_132 11 1 (dk_at dksX2_compress_23 20 rfl rfl)
theorem dX2_compress_560 : decode cX2_compress 560 = .ok (.istore 13, 2) := dk_54 13 (dk_at dksX2_compress_24 0 rfl rfl)
theorem dX2_compress_562 : decode cX2_compress 562 = .ok (.goto (-475), 3) := dk_167 254 37 (dk_at dksX2_compress_24 2 rfl rfl)
theorem dX2_compress_565 : decode cX2_compress 565 = .ok (.aload_n 1, 1) := dk_43 (dk_at dksX2_compress_24 5 rfl rfl)
theorem dX2_compress_566 : decode cX2_compress 566 = .ok (.iload 13, 2) := dk_21 13 (dk_at dksX2_compress_24 6 rfl rfl)
theorem dX2_compress_568 : decode cX2_compress 568 = .ok (.iload 8, 2) := dk_21 8 (dk_at dksX2_compress_24 8 rfl rfl)
theorem dX2_compress_570 : decode cX2_compress 570 = .ok (.iload 13, 2) := dk_21 13 (dk_at dksX2_compress_24 10 rfl rfl)
theorem dX2_compress_572 : decode cX2_compress 572 = .ok (.isub, 1) := dk_100 (dk_at dksX2_compress_24 12 rfl rfl)
theorem dX2_compress_573 : decode cX2_compress 573 = .ok (.aload 4, 2) := dk_25 4 (dk_at dksX2_compress_24 13 rfl rfl)
theorem dX2_compress_575 : decode cX2_compress 575 = .ok (.iload 12, 2) := dk_21 12 (dk_at dksX2_compress_24 15 rfl rfl)
theorem dX2_compress_577 : decode cX2_compress 577 = .ok (.iload 7, 2) := dk_21 7 (dk_at dksX2_compress_24 17 rfl rfl)
theorem dX2_compress_579 : decode cX2_compress 579 = .ok (.invokestatic 84, 3) := dk_184 0 84 (dk_at dksX2_compress_24 19 rfl rfl)
theorem dX2_compress_582 : decode cX2_compress 582 = .ok (.istore 12, 2) := dk_54 12 (dk_at dksX2_compress_24 22 rfl rfl)
theorem dX2_compress_584 : decode cX2_compress 584 = .ok (.iload 12, 2) := dk_21 12 (dk_at dksX2_compress_25 0 rfl rfl)
theorem dX2_compress_586 : decode cX2_compress 586 = .ok (.iload 5, 2) := dk_21 5 (dk_at dksX2_compress_25 2 rfl rfl)
theorem dX2_compress_588 : decode cX2_compress 588 = .ok (.isub, 1) := dk_100 (dk_at dksX2_compress_25 4 rfl rfl)
theorem dX2_compress_589 : decode cX2_compress 589 = .ok (.ireturn, 1) := dk_172 (dk_at dksX2_compress_25 5 rfl rfl)
abbrev cX2_compress64k : ByteArray := prog_7_method_2_code
def yX2_compress64k : MethodName := ⟨RX2, "compress64k", "([BII[BII)I"⟩
def dkwX2_compress64k_22 : List UInt8 := [21, 5, 184, 0, 84, 54, 10, 21, 10, 21, 4, 100, 172]
abbrev dktX2_compress64k_22 : List UInt8 := dkwX2_compress64k_22 ++ []
def dkwX2_compress64k_21 : List UInt8 := [167, 255, 37, 21, 9, 132, 9, 1, 54, 11, 167, 254, 61, 42, 21, 11, 21, 6, 21, 11, 100, 45, 21, 10]
abbrev dktX2_compress64k_21 : List UInt8 := dkwX2_compress64k_21 ++ dktX2_compress64k_22
def dkwX2_compress64k_20 : List UInt8 := [184, 0, 33, 154, 0, 6, 167, 0, 20, 21, 10, 132, 10, 1, 54, 19, 45, 21, 19, 3, 184, 0, 58]
abbrev dktX2_compress64k_20 : List UInt8 := dkwX2_compress64k_20 ++ dktX2_compress64k_21
def dkwX2_compress64k_19 : List UInt8 := [21, 21, 184, 0, 25, 96, 54, 14, 25, 12, 21, 21, 21, 9, 27, 100, 184, 0, 29, 42, 21, 9, 21, 14]
abbrev dktX2_compress64k_19 : List UInt8 := dkwX2_compress64k_19 ++ dktX2_compress64k_20
def dkwX2_compress64k_18 : List UInt8 := [21, 9, 5, 100, 27, 100, 184, 0, 29, 42, 21, 9, 184, 0, 13, 184, 0, 19, 54, 21, 27, 25, 12]
abbrev dktX2_compress64k_18 : List UInt8 := dkwX2_compress64k_18 ++ dktX2_compress64k_19
def dkwX2_compress64k_17 : List UInt8 := [164, 0, 10, 21, 9, 54, 11, 167, 0, 99, 25, 12, 42, 21, 9, 5, 100, 184, 0, 13, 184, 0, 19]
abbrev dktX2_compress64k_17 : List UInt8 := dkwX2_compress64k_17 ++ dktX2_compress64k_18
def dkwX2_compress64k_16 : List UInt8 := [167, 0, 18, 45, 21, 19, 45, 21, 19, 184, 0, 80, 21, 20, 128, 184, 0, 58, 21, 9, 21, 8]
abbrev dktX2_compress64k_16 : List UInt8 := dkwX2_compress64k_16 ++ dktX2_compress64k_17
def dkwX2_compress64k_15 : List UInt8 := [184, 0, 80, 16, 15, 128, 184, 0, 58, 21, 20, 16, 15, 100, 45, 21, 10, 184, 0, 62, 54, 10]
abbrev dktX2_compress64k_15 : List UInt8 := dkwX2_compress64k_15 ++ dktX2_compress64k_16
def dkwX2_compress64k_14 : List UInt8 := [183, 0, 55, 191, 21, 9, 21, 20, 96, 54, 9, 21, 20, 16, 15, 161, 0, 34, 45, 21, 19, 45, 21, 19]
abbrev dktX2_compress64k_14 : List UInt8 := dkwX2_compress64k_14 ++ dktX2_compress64k_15
def dkwX2_compress64k_13 : List UInt8 := [21, 10, 100, 16, 6, 21, 20, 184, 0, 77, 96, 184, 0, 47, 153, 0, 13, 187, 0, 51, 89, 18, 53]
abbrev dktX2_compress64k_13 : List UInt8 := dkwX2_compress64k_13 ++ dktX2_compress64k_14
def dkwX2_compress64k_12 : List UInt8 := [132, 10, 2, 132, 9, 4, 132, 14, 4, 42, 21, 14, 21, 9, 21, 7, 184, 0, 73, 54, 20, 21, 5]
abbrev dktX2_compress64k_12 : List UInt8 := dkwX2_compress64k_12 ++ dktX2_compress64k_13
def dkwX2_compress64k_11 : List UInt8 := [184, 0, 66, 21, 10, 21, 18, 96, 54, 10, 45, 21, 10, 21, 9, 21, 14, 100, 147, 184, 0, 70]
abbrev dktX2_compress64k_11 : List UInt8 := dkwX2_compress64k_11 ++ dktX2_compress64k_12
def dkwX2_compress64k_10 : List UInt8 := [54, 10, 167, 0, 13, 45, 21, 19, 21, 18, 7, 120, 184, 0, 58, 42, 21, 11, 45, 21, 10, 21, 18]
abbrev dktX2_compress64k_10 : List UInt8 := dkwX2_compress64k_10 ++ dktX2_compress64k_11
def dkwX2_compress64k_9 : List UInt8 := [161, 0, 28, 45, 21, 19, 17, 0, 240, 184, 0, 58, 21, 18, 16, 15, 100, 45, 21, 10, 184, 0, 62]
abbrev dktX2_compress64k_9 : List UInt8 := dkwX2_compress64k_9 ++ dktX2_compress64k_10
def dkwX2_compress64k_8 : List UInt8 := [96, 8, 96, 184, 0, 47, 153, 0, 13, 187, 0, 51, 89, 18, 53, 183, 0, 55, 191, 21, 18, 16, 15]
abbrev dktX2_compress64k_8 : List UInt8 := dkwX2_compress64k_8 ++ dktX2_compress64k_9
def dkwX2_compress64k_7 : List UInt8 := [21, 11, 100, 54, 18, 21, 10, 132, 10, 1, 54, 19, 21, 5, 21, 10, 100, 21, 18, 3, 184, 0, 43, 4]
abbrev dktX2_compress64k_7 : List UInt8 := dkwX2_compress64k_7 ++ dktX2_compress64k_8
def dkwX2_compress64k_6 : List UInt8 := [21, 11, 184, 0, 39, 54, 17, 21, 9, 21, 17, 100, 54, 9, 21, 14, 21, 17, 100, 54, 14, 21, 9]
abbrev dktX2_compress64k_6 : List UInt8 := dkwX2_compress64k_6 ++ dktX2_compress64k_7
def dkwX2_compress64k_5 : List UInt8 := [21, 9, 27, 100, 184, 0, 29, 42, 21, 14, 21, 9, 184, 0, 33, 153, 255, 183, 42, 21, 14, 21, 9, 27]
abbrev dktX2_compress64k_5 : List UInt8 := dkwX2_compress64k_5 ++ dktX2_compress64k_6
def dkwX2_compress64k_4 : List UInt8 := [184, 0, 13, 184, 0, 19, 54, 17, 27, 25, 12, 21, 17, 184, 0, 25, 96, 54, 14, 25, 12, 21, 17]
abbrev dktX2_compress64k_4 : List UInt8 := dkwX2_compress64k_4 ++ dktX2_compress64k_5
def dkwX2_compress64k_3 : List UInt8 := [21, 16, 132, 16, 1, 178, 0, 9, 124, 54, 15, 21, 13, 21, 8, 164, 0, 6, 167, 1, 155, 42, 21, 9]
abbrev dktX2_compress64k_3 : List UInt8 := dkwX2_compress64k_3 ++ dktX2_compress64k_4
def dkwX2_compress64k_2 : List UInt8 := [54, 13, 4, 54, 15, 4, 178, 0, 9, 120, 54, 16, 21, 13, 54, 9, 21, 13, 21, 15, 96, 54, 13]
abbrev dktX2_compress64k_2 : List UInt8 := dkwX2_compress64k_2 ++ dktX2_compress64k_3
def dkwX2_compress64k_1 : List UInt8 := [54, 10, 21, 9, 54, 11, 28, 16, 13, 161, 1, 211, 17, 32, 0, 188, 9, 58, 12, 132, 9, 1, 21, 9]
abbrev dktX2_compress64k_1 : List UInt8 := dkwX2_compress64k_1 ++ dktX2_compress64k_2
def dkwX2_compress64k_0 : List UInt8 := [27, 28, 96, 54, 6, 21, 6, 8, 100, 54, 7, 21, 6, 16, 12, 100, 54, 8, 27, 54, 9, 21, 4]
abbrev dktX2_compress64k_0 : List UInt8 := dkwX2_compress64k_0 ++ dktX2_compress64k_1
theorem dksX2_compress64k_0 : cX2_compress64k.data.toList.drop 0 = dktX2_compress64k_0 := by decide +kernel
theorem dksX2_compress64k_1 : cX2_compress64k.data.toList.drop 23 = dktX2_compress64k_1 := dk_seg dksX2_compress64k_0 23 rfl rfl
theorem dksX2_compress64k_2 : cX2_compress64k.data.toList.drop 47 = dktX2_compress64k_2 := dk_seg dksX2_compress64k_1 24 rfl rfl
theorem dksX2_compress64k_3 : cX2_compress64k.data.toList.drop 70 = dktX2_compress64k_3 := dk_seg dksX2_compress64k_2 23 rfl rfl
theorem dksX2_compress64k_4 : cX2_compress64k.data.toList.drop 94 = dktX2_compress64k_4 := dk_seg dksX2_compress64k_3 24 rfl rfl
theorem dksX2_compress64k_5 : cX2_compress64k.data.toList.drop 117 = dktX2_compress64k_5 := dk_seg dksX2_compress64k_4 23 rfl rfl
theorem dksX2_compress64k_6 : cX2_compress64k.data.toList.drop 141 = dktX2_compress64k_6 := dk_seg dksX2_compress64k_5 24 rfl rfl
theorem dksX2_compress64k_7 : cX2_compress64k.data.toList.drop 164 = dktX2_compress64k_7 := dk_seg dksX2_compress64k_6 23 rfl rfl
theorem dksX2_compress64k_8 : cX2_compress64k.data.toList.drop 188 = dktX2_compress64k_8 := dk_seg dksX2_compress64k_7 24 rfl rfl
theorem dksX2_compress64k_9 : cX2_compress64k.data.toList.drop 211 = dktX2_compress64k_9 := dk_seg dksX2_compress64k_8 23 rfl rfl
theorem dksX2_compress64k_10 : cX2_compress64k.data.toList.drop 234 = dktX2_compress64k_10 := dk_seg dksX2_compress64k_9 23 rfl rfl
theorem dksX2_compress64k_11 : cX2_compress64k.data.toList.drop 257 = dktX2_compress64k_11 := dk_seg dksX2_compress64k_10 23 rfl rfl
theorem dksX2_compress64k_12 : cX2_compress64k.data.toList.drop 279 = dktX2_compress64k_12 := dk_seg dksX2_compress64k_11 22 rfl rfl
theorem dksX2_compress64k_13 : cX2_compress64k.data.toList.drop 302 = dktX2_compress64k_13 := dk_seg dksX2_compress64k_12 23 rfl rfl
theorem dksX2_compress64k_14 : cX2_compress64k.data.toList.drop 325 = dktX2_compress64k_14 := dk_seg dksX2_compress64k_13 23 rfl rfl
theorem dksX2_compress64k_15 : cX2_compress64k.data.toList.drop 349 = dktX2_compress64k_15 := dk_seg dksX2_compress64k_14 24 rfl rfl
theorem dksX2_compress64k_16 : cX2_compress64k.data.toList.drop 371 = dktX2_compress64k_16 := dk_seg dksX2_compress64k_15 22 rfl rfl
theorem dksX2_compress64k_17 : cX2_compress64k.data.toList.drop 393 = dktX2_compress64k_17 := dk_seg dksX2_compress64k_16 22 rfl rfl
theorem dksX2_compress64k_18 : cX2_compress64k.data.toList.drop 416 = dktX2_compress64k_18 := dk_seg dksX2_compress64k_17 23 rfl rfl
theorem dksX2_compress64k_19 : cX2_compress64k.data.toList.drop 439 = dktX2_compress64k_19 := dk_seg dksX2_compress64k_18 23 rfl rfl
theorem dksX2_compress64k_20 : cX2_compress64k.data.toList.drop 463 = dktX2_compress64k_20 := dk_seg dksX2_compress64k_19 24 rfl rfl
theorem dksX2_compress64k_21 : cX2_compress64k.data.toList.drop 486 = dktX2_compress64k_21 := dk_seg dksX2_compress64k_20 23 rfl rfl
theorem dksX2_compress64k_22 : cX2_compress64k.data.toList.drop 510 = dktX2_compress64k_22 := dk_seg dksX2_compress64k_21 24 rfl rfl
theorem dX2_compress64k_0 : decode cX2_compress64k 0 = .ok (.iload_n 1, 1) := dk_27 (dk_at dksX2_compress64k_0 0 rfl rfl)
theorem dX2_compress64k_1 : decode cX2_compress64k 1 = .ok (.iload_n 2, 1) := dk_28 (dk_at dksX2_compress64k_0 1 rfl rfl)
theorem dX2_compress64k_2 : decode cX2_compress64k 2 = .ok (.iadd, 1) := dk_96 (dk_at dksX2_compress64k_0 2 rfl rfl)
theorem dX2_compress64k_3 : decode cX2_compress64k 3 = .ok (.istore 6, 2) := dk_54 6 (dk_at dksX2_compress64k_0 3 rfl rfl)
theorem dX2_compress64k_5 : decode cX2_compress64k 5 = .ok (.iload 6, 2) := dk_21 6 (dk_at dksX2_compress64k_0 5 rfl rfl)
theorem dX2_compress64k_7 : decode cX2_compress64k 7 = .ok (.iconst 5, 1) := dk_8 (dk_at dksX2_compress64k_0 7 rfl rfl)
theorem dX2_compress64k_8 : decode cX2_compress64k 8 = .ok (.isub, 1) := dk_100 (dk_at dksX2_compress64k_0 8 rfl rfl)
theorem dX2_compress64k_9 : decode cX2_compress64k 9 = .ok (.istore 7, 2) := dk_54 7 (dk_at dksX2_compress64k_0 9 rfl rfl)
theorem dX2_compress64k_11 : decode cX2_compress64k 11 = .ok (.iload 6, 2) := dk_21 6 (dk_at dksX2_compress64k_0 11 rfl rfl)
theorem dX2_compress64k_13 : decode cX2_compress64k 13 = .ok (.bipush 12, 2) := dk_16 12 (dk_at dksX2_compress64k_0 13 rfl rfl)
theorem dX2_compress64k_15 : decode cX2_compress64k 15 = .ok (.isub, 1) := dk_100 (dk_at dksX2_compress64k_0 15 rfl rfl)
theorem dX2_compress64k_16 : decode cX2_compress64k 16 = .ok (.istore 8, 2) := dk_54 8 (dk_at dksX2_compress64k_0 16 rfl rfl)
theorem dX2_compress64k_18 : decode cX2_compress64k 18 = .ok (.iload_n 1, 1) := dk_27 (dk_at dksX2_compress64k_0 18 rfl rfl)
theorem dX2_compress64k_19 : decode cX2_compress64k 19 = .ok (.istore 9, 2) := dk_54 9 (dk_at dksX2_compress64k_0 19 rfl rfl)
theorem dX2_compress64k_21 : decode cX2_compress64k 21 = .ok (.iload 4, 2) := dk_21 4 (dk_at dksX2_compress64k_0 21 rfl rfl)
theorem dX2_compress64k_23 : decode cX2_compress64k 23 = .ok (.istore 10, 2) := dk_54 10 (dk_at dksX2_compress64k_1 0 rfl rfl)
theorem dX2_compress64k_25 : decode cX2_compress64k 25 = .ok (.iload 9, 2) := dk_21 9 (dk_at dksX2_compress64k_1 2 rfl rfl)
theorem dX2_compress64k_27 : decode cX2_compress64k 27 = .ok (.istore 11, 2) := dk_54 11 (dk_at dksX2_compress64k_1 4 rfl rfl)
theorem dX2_compress64k_29 : decode cX2_compress64k 29 = .ok (.iload_n 2, 1) := dk_28 (dk_at dksX2_compress64k_1 6 rfl rfl)
theorem dX2_compress64k_30 : decode cX2_compress64k 30 = .ok (.bipush 13, 2) := dk_16 13 (dk_at dksX2_compress64k_1 7 rfl rfl)
theorem dX2_compress64k_32 : decode cX2_compress64k 32 = .ok (.if_icmp .lt 467, 3) := dk_161 1 211 (dk_at dksX2_compress64k_1 9 rfl rfl)
theorem dX2_compress64k_35 : decode cX2_compress64k 35 = .ok (.sipush 8192, 3) := dk_17 32 0 (dk_at dksX2_compress64k_1 12 rfl rfl)
theorem dX2_compress64k_38 : decode cX2_compress64k 38 = .ok (.newarray .short, 2) := dk_188_9 (dk_at dksX2_compress64k_1 15 rfl rfl)
theorem dX2_compress64k_40 : decode cX2_compress64k 40 = .ok (.astore 12, 2) := dk_58 12 (dk_at dksX2_compress64k_1 17 rfl rfl)
theorem dX2_compress64k_42 : decode cX2_compress64k 42 = .ok (.iinc 9 1, 3) := dk_132 9 1 (dk_at dksX2_compress64k_1 19 rfl rfl)
theorem dX2_compress64k_45 : decode cX2_compress64k 45 = .ok (.iload 9, 2) := dk_21 9 (dk_at dksX2_compress64k_1 22 rfl rfl)
theorem dX2_compress64k_47 : decode cX2_compress64k 47 = .ok (.istore 13, 2) := dk_54 13 (dk_at dksX2_compress64k_2 0 rfl rfl)
theorem dX2_compress64k_49 : decode cX2_compress64k 49 = .ok (.iconst 1, 1) := dk_4 (dk_at dksX2_compress64k_2 2 rfl rfl)
theorem dX2_compress64k_50 : decode cX2_compress64k 50 = .ok (.istore 15, 2) := dk_54 15 (dk_at dksX2_compress64k_2 3 rfl rfl)
theorem dX2_compress64k_52 : decode cX2_compress64k 52 = .ok (.iconst 1, 1) := dk_4 (dk_at dksX2_compress64k_2 5 rfl rfl)
theorem dX2_compress64k_53 : decode cX2_compress64k 53 = .ok (.getstatic 9, 3) := dk_178 0 9 (dk_at dksX2_compress64k_2 6 rfl rfl)
theorem dX2_compress64k_56 : decode cX2_compress64k 56 = .ok (.ishl, 1) := dk_120 (dk_at dksX2_compress64k_2 9 rfl rfl)
theorem dX2_compress64k_57 : decode cX2_compress64k 57 = .ok (.istore 16, 2) := dk_54 16 (dk_at dksX2_compress64k_2 10 rfl rfl)
theorem dX2_compress64k_59 : decode cX2_compress64k 59 = .ok (.iload 13, 2) := dk_21 13 (dk_at dksX2_compress64k_2 12 rfl rfl)
theorem dX2_compress64k_61 : decode cX2_compress64k 61 = .ok (.istore 9, 2) := dk_54 9 (dk_at dksX2_compress64k_2 14 rfl rfl)
theorem dX2_compress64k_63 : decode cX2_compress64k 63 = .ok (.iload 13, 2) := dk_21 13 (dk_at dksX2_compress64k_2 16 rfl rfl)
theorem dX2_compress64k_65 : decode cX2_compress64k 65 = .ok (.iload 15, 2) := dk_21 15 (dk_at dksX2_compress64k_2 18 rfl rfl)
theorem dX2_compress64k_67 : decode cX2_compress64k 67 = .ok (.iadd, 1) := dk_96 (dk_at dksX2_compress64k_2 20 rfl rfl)
theorem dX2_compress64k_68 : decode cX2_compress64k 68 = .ok (.istore 13, 2) := dk_54 13 (dk_at dksX2_compress64k_2 21 rfl rfl)
theorem dX2_compress64k_70 : decode cX2_compress64k 70 = .ok (.iload 16, 2) := dk_21 16 (dk_at dksX2_compress64k_3 0 rfl rfl)
theorem dX2_compress64k_72 : decode cX2_compress64k 72 = .ok (.iinc 16 1, 3) := dk_132 16 1 (dk_at dksX2_compress64k_3 2 rfl rfl)
theorem dX2_compress64k_75 : decode cX2_compress64k 75 = .ok (.getstatic 9, 3) := dk_178 0 9 (dk_at dksX2_compress64k_3 5 rfl rfl)
theorem dX2_compress64k_78 : decode cX2_compress64k 78 = .ok (.iushr, 1) := dk_124 (dk_at dksX2_compress64k_3 8 rfl rfl)
theorem dX2_compress64k_79 : decode cX2_compress64k 79 = .ok (.istore 15, 2) := dk_54 15 (dk_at dksX2_compress64k_3 9 rfl rfl)
theorem dX2_compress64k_81 : decode cX2_compress64k 81 = .ok (.iload 13, 2) := dk_21 13 (dk_at dksX2_compress64k_3 11 rfl rfl)
theorem dX2_compress64k_83 : decode cX2_compress64k 83 = .ok (.iload 8, 2) := dk_21 8 (dk_at dksX2_compress64k_3 13 rfl rfl)
theorem dX2_compress64k_85 : decode cX2_compress64k 85 = .ok (.if_icmp .le 6, 3) := dk_164 0 6 (dk_at dksX2_compress64k_3 15 rfl rfl)
theorem dX2_compress64k_88 : decode cX2_compress64k 88 = .ok (.goto 411, 3) := dk_167 1 155 (dk_at dksX2_compress64k_3 18 rfl rfl)
theorem dX2_compress64k_91 : decode cX2_compress64k 91 = .ok (.aload_n 0, 1) := dk_42 (dk_at dksX2_compress64k_3 21 rfl rfl)
theorem dX2_compress64k_92 : decode cX2_compress64k 92 = .ok (.iload 9, 2) := dk_21 9 (dk_at dksX2_compress64k_3 22 rfl rfl)
theorem dX2_compress64k_94 : decode cX2_compress64k 94 = .ok (.invokestatic 13, 3) := dk_184 0 13 (dk_at dksX2_compress64k_4 0 rfl rfl)
theorem dX2_compress64k_97 : decode cX2_compress64k 97 = .ok (.invokestatic 19, 3) := dk_184 0 19 (dk_at dksX2_compress64k_4 3 rfl rfl)
theorem dX2_compress64k_100 : decode cX2_compress64k 100 = .ok (.istore 17, 2) := dk_54 17 (dk_at dksX2_compress64k_4 6 rfl rfl)
theorem dX2_compress64k_102 : decode cX2_compress64k 102 = .ok (.iload_n 1, 1) := dk_27 (dk_at dksX2_compress64k_4 8 rfl rfl)
theorem dX2_compress64k_103 : decode cX2_compress64k 103 = .ok (.aload 12, 2) := dk_25 12 (dk_at dksX2_compress64k_4 9 rfl rfl)
theorem dX2_compress64k_105 : decode cX2_compress64k 105 = .ok (.iload 17, 2) := dk_21 17 (dk_at dksX2_compress64k_4 11 rfl rfl)
theorem dX2_compress64k_107 : decode cX2_compress64k 107 = .ok (.invokestatic 25, 3) := dk_184 0 25 (dk_at dksX2_compress64k_4 13 rfl rfl)
theorem dX2_compress64k_110 : decode cX2_compress64k 110 = .ok (.iadd, 1) := dk_96 (dk_at dksX2_compress64k_4 16 rfl rfl)
theorem dX2_compress64k_111 : decode cX2_compress64k 111 = .ok (.istore 14, 2) := dk_54 14 (dk_at dksX2_compress64k_4 17 rfl rfl)
theorem dX2_compress64k_113 : decode cX2_compress64k 113 = .ok (.aload 12, 2) := dk_25 12 (dk_at dksX2_compress64k_4 19 rfl rfl)
theorem dX2_compress64k_115 : decode cX2_compress64k 115 = .ok (.iload 17, 2) := dk_21 17 (dk_at dksX2_compress64k_4 21 rfl rfl)
theorem dX2_compress64k_117 : decode cX2_compress64k 117 = .ok (.iload 9, 2) := dk_21 9 (dk_at dksX2_compress64k_5 0 rfl rfl)
theorem dX2_compress64k_119 : decode cX2_compress64k 119 = .ok (.iload_n 1, 1) := dk_27 (dk_at dksX2_compress64k_5 2 rfl rfl)
theorem dX2_compress64k_120 : decode cX2_compress64k 120 = .ok (.isub, 1) := dk_100 (dk_at dksX2_compress64k_5 3 rfl rfl)
theorem dX2_compress64k_121 : decode cX2_compress64k 121 = .ok (.invokestatic 29, 3) := dk_184 0 29 (dk_at dksX2_compress64k_5 4 rfl rfl)
theorem dX2_compress64k_124 : decode cX2_compress64k 124 = .ok (.aload_n 0, 1) := dk_42 (dk_at dksX2_compress64k_5 7 rfl rfl)
theorem dX2_compress64k_125 : decode cX2_compress64k 125 = .ok (.iload 14, 2) := dk_21 14 (dk_at dksX2_compress64k_5 8 rfl rfl)
theorem dX2_compress64k_127 : decode cX2_compress64k 127 = .ok (.iload 9, 2) := dk_21 9 (dk_at dksX2_compress64k_5 10 rfl rfl)
theorem dX2_compress64k_129 : decode cX2_compress64k 129 = .ok (.invokestatic 33, 3) := dk_184 0 33 (dk_at dksX2_compress64k_5 12 rfl rfl)
theorem dX2_compress64k_132 : decode cX2_compress64k 132 = .ok (.ifCond .eq (-73), 3) := dk_153 255 183 (dk_at dksX2_compress64k_5 15 rfl rfl)
theorem dX2_compress64k_135 : decode cX2_compress64k 135 = .ok (.aload_n 0, 1) := dk_42 (dk_at dksX2_compress64k_5 18 rfl rfl)
theorem dX2_compress64k_136 : decode cX2_compress64k 136 = .ok (.iload 14, 2) := dk_21 14 (dk_at dksX2_compress64k_5 19 rfl rfl)
theorem dX2_compress64k_138 : decode cX2_compress64k 138 = .ok (.iload 9, 2) := dk_21 9 (dk_at dksX2_compress64k_5 21 rfl rfl)
theorem dX2_compress64k_140 : decode cX2_compress64k 140 = .ok (.iload_n 1, 1) := dk_27 (dk_at dksX2_compress64k_5 23 rfl rfl)
theorem dX2_compress64k_141 : decode cX2_compress64k 141 = .ok (.iload 11, 2) := dk_21 11 (dk_at dksX2_compress64k_6 0 rfl rfl)
theorem dX2_compress64k_143 : decode cX2_compress64k 143 = .ok (.invokestatic 39, 3) := dk_184 0 39 (dk_at dksX2_compress64k_6 2 rfl rfl)
theorem dX2_compress64k_146 : decode cX2_compress64k 146 = .ok (.istore 17, 2) := dk_54 17 (dk_at dksX2_compress64k_6 5 rfl rfl)
theorem dX2_compress64k_148 : decode cX2_compress64k 148 = .ok (.iload 9, 2) := dk_21 9 (dk_at dksX2_compress64k_6 7 rfl rfl)
theorem dX2_compress64k_150 : decode cX2_compress64k 150 = .ok (.iload 17, 2) := dk_21 17 (dk_at dksX2_compress64k_6 9 rfl rfl)
theorem dX2_compress64k_152 : decode cX2_compress64k 152 = .ok (.isub, 1) := dk_100 (dk_at dksX2_compress64k_6 11 rfl rfl)
theorem dX2_compress64k_153 : decode cX2_compress64k 153 = .ok (.istore 9, 2) := dk_54 9 (dk_at dksX2_compress64k_6 12 rfl rfl)
theorem dX2_compress64k_155 : decode cX2_compress64k 155 = .ok (.iload 14, 2) := dk_21 14 (dk_at dksX2_compress64k_6 14 rfl rfl)
theorem dX2_compress64k_157 : decode cX2_compress64k 157 = .ok (.iload 17, 2) := dk_21 17 (dk_at dksX2_compress64k_6 16 rfl rfl)
theorem dX2_compress64k_159 : decode cX2_compress64k 159 = .ok (.isub, 1) := dk_100 (dk_at dksX2_compress64k_6 18 rfl rfl)
theorem dX2_compress64k_160 : decode cX2_compress64k 160 = .ok (.istore 14, 2) := dk_54 14 (dk_at dksX2_compress64k_6 19 rfl rfl)
theorem dX2_compress64k_162 : decode cX2_compress64k 162 = .ok (.iload 9, 2) := dk_21 9 (dk_at dksX2_compress64k_6 21 rfl rfl)
theorem dX2_compress64k_164 : decode cX2_compress64k 164 = .ok (.iload 11, 2) := dk_21 11 (dk_at dksX2_compress64k_7 0 rfl rfl)
theorem dX2_compress64k_166 : decode cX2_compress64k 166 = .ok (.isub, 1) := dk_100 (dk_at dksX2_compress64k_7 2 rfl rfl)
theorem dX2_compress64k_167 : decode cX2_compress64k 167 = .ok (.istore 18, 2) := dk_54 18 (dk_at dksX2_compress64k_7 3 rfl rfl)
theorem dX2_compress64k_169 : decode cX2_compress64k 169 = .ok (.iload 10, 2) := dk_21 10 (dk_at dksX2_compress64k_7 5 rfl rfl)
theorem dX2_compress64k_171 : decode cX2_compress64k 171 = .ok (.iinc 10 1, 3) := dk_132 10 1 (dk_at dksX2_compress64k_7 7 rfl rfl)
theorem dX2_compress64k_174 : decode cX2_compress64k 174 = .ok (.istore 19, 2) := dk_54 19 (dk_at dksX2_compress64k_7 10 rfl rfl)
theorem dX2_compress64k_176 : decode cX2_compress64k 176 = .ok (.iload 5, 2) := dk_21 5 (dk_at dksX2_compress64k_7 12 rfl rfl)
theorem dX2_compress64k_178 : decode cX2_compress64k 178 = .ok (.iload 10, 2) := dk_21 10 (dk_at dksX2_compress64k_7 14 rfl rfl)
theorem dX2_compress64k_180 : decode cX2_compress64k 180 = .ok (.isub, 1) := dk_100 (dk_at dksX2_compress64k_7 16 rfl rfl)
theorem dX2_compress64k_181 : decode cX2_compress64k 181 = .ok (.iload 18, 2) := dk_21 18 (dk_at dksX2_compress64k_7 17 rfl rfl)
theorem dX2_compress64k_183 : decode cX2_compress64k 183 = .ok (.iconst 0, 1) := dk_3 (dk_at dksX2_compress64k_7 19 rfl rfl)
theorem dX2_compress64k_184 : decode cX2_compress64k 184 = .ok (.invokestatic 43, 3) := dk_184 0 43 (dk_at dksX2_compress64k_7 20 rfl rfl)
theorem dX2_compress64k_187 : decode cX2_compress64k 187 = .ok (.iconst 1, 1) := dk_4 (dk_at dksX2_compress64k_7 23 rfl rfl)
theorem dX2_compress64k_188 : decode cX2_compress64k 188 = .ok (.iadd, 1) := dk_96 (dk_at dksX2_compress64k_8 0 rfl rfl)
theorem dX2_compress64k_189 : decode cX2_compress64k 189 = .ok (.iconst 5, 1) := dk_8 (dk_at dksX2_compress64k_8 1 rfl rfl)
theorem dX2_compress64k_190 : decode cX2_compress64k 190 = .ok (.iadd, 1) := dk_96 (dk_at dksX2_compress64k_8 2 rfl rfl)
theorem dX2_compress64k_191 : decode cX2_compress64k 191 = .ok (.invokestatic 47, 3) := dk_184 0 47 (dk_at dksX2_compress64k_8 3 rfl rfl)
theorem dX2_compress64k_194 : decode cX2_compress64k 194 = .ok (.ifCond .eq 13, 3) := dk_153 0 13 (dk_at dksX2_compress64k_8 6 rfl rfl)
theorem dX2_compress64k_197 : decode cX2_compress64k 197 = .ok (.new 51, 3) := dk_187 0 51 (dk_at dksX2_compress64k_8 9 rfl rfl)
theorem dX2_compress64k_200 : decode cX2_compress64k 200 = .ok (.dup, 1) := dk_89 (dk_at dksX2_compress64k_8 12 rfl rfl)
theorem dX2_compress64k_201 : decode cX2_compress64k 201 = .ok (.ldc 53, 2) := dk_18 53 (dk_at dksX2_compress64k_8 13 rfl rfl)
theorem dX2_compress64k_203 : decode cX2_compress64k 203 = .ok (.invokespecial 55, 3) := dk_183 0 55 (dk_at dksX2_compress64k_8 15 rfl rfl)
theorem dX2_compress64k_206 : decode cX2_compress64k 206 = .ok (.athrow, 1) := dk_191 (dk_at dksX2_compress64k_8 18 rfl rfl)
theorem dX2_compress64k_207 : decode cX2_compress64k 207 = .ok (.iload 18, 2) := dk_21 18 (dk_at dksX2_compress64k_8 19 rfl rfl)
theorem dX2_compress64k_209 : decode cX2_compress64k 209 = .ok (.bipush 15, 2) := dk_16 15 (dk_at dksX2_compress64k_8 21 rfl rfl)
theorem dX2_compress64k_211 : decode cX2_compress64k 211 = .ok (.if_icmp .lt 28, 3) := dk_161 0 28 (dk_at dksX2_compress64k_9 0 rfl rfl)
theorem dX2_compress64k_214 : decode cX2_compress64k 214 = .ok (.aload_n 3, 1) := dk_45 (dk_at dksX2_compress64k_9 3 rfl rfl)
theorem dX2_compress64k_215 : decode cX2_compress64k 215 = .ok (.iload 19, 2) := dk_21 19 (dk_at dksX2_compress64k_9 4 rfl rfl)
theorem dX2_compress64k_217 : decode cX2_compress64k 217 = .ok (.sipush 240, 3) := dk_17 0 240 (dk_at dksX2_compress64k_9 6 rfl rfl)
theorem dX2_compress64k_220 : decode cX2_compress64k 220 = .ok (.invokestatic 58, 3) := dk_184 0 58 (dk_at dksX2_compress64k_9 9 rfl rfl)
theorem dX2_compress64k_223 : decode cX2_compress64k 223 = .ok (.iload 18, 2) := dk_21 18 (dk_at dksX2_compress64k_9 12 rfl rfl)
theorem dX2_compress64k_225 : decode cX2_compress64k 225 = .ok (.bipush 15, 2) := dk_16 15 (dk_at dksX2_compress64k_9 14 rfl rfl)
theorem dX2_compress64k_227 : decode cX2_compress64k 227 = .ok (.isub, 1) := dk_100 (dk_at dksX2_compress64k_9 16 rfl rfl)
theorem dX2_compress64k_228 : decode cX2_compress64k 228 = .ok (.aload_n 3, 1) := dk_45 (dk_at dksX2_compress64k_9 17 rfl rfl)
theorem dX2_compress64k_229 : decode cX2_compress64k 229 = .ok (.iload 10, 2) := dk_21 10 (dk_at dksX2_compress64k_9 18 rfl rfl)
theorem dX2_compress64k_231 : decode cX2_compress64k 231 = .ok (.invokestatic 62, 3) := dk_184 0 62 (dk_at dksX2_compress64k_9 20 rfl rfl)
theorem dX2_compress64k_234 : decode cX2_compress64k 234 = .ok (.istore 10, 2) := dk_54 10 (dk_at dksX2_compress64k_10 0 rfl rfl)
theorem dX2_compress64k_236 : decode cX2_compress64k 236 = .ok (.goto 13, 3) := dk_167 0 13 (dk_at dksX2_compress64k_10 2 rfl rfl)
theorem dX2_compress64k_239 : decode cX2_compress64k 239 = .ok (.aload_n 3, 1) := dk_45 (dk_at dksX2_compress64k_10 5 rfl rfl)
theorem dX2_compress64k_240 : decode cX2_compress64k 240 = .ok (.iload 19, 2) := dk_21 19 (dk_at dksX2_compress64k_10 6 rfl rfl)
theorem dX2_compress64k_242 : decode cX2_compress64k 242 = .ok (.iload 18, 2) := dk_21 18 (dk_at dksX2_compress64k_10 8 rfl rfl)
theorem dX2_compress64k_244 : decode cX2_compress64k 244 = .ok (.iconst 4, 1) := dk_7 (dk_at dksX2_compress64k_10 10 rfl rfl)
theorem dX2_compress64k_245 : decode cX2_compress64k 245 = .ok (.ishl, 1) := dk_120 (dk_at dksX2_compress64k_10 11 rfl rfl)
theorem dX2_compress64k_246 : decode cX2_compress64k 246 = .ok (.invokestatic 58, 3) := dk_184 0 58 (dk_at dksX2_compress64k_10 12 rfl rfl)
theorem dX2_compress64k_249 : decode cX2_compress64k 249 = .ok (.aload_n 0, 1) := dk_42 (dk_at dksX2_compress64k_10 15 rfl rfl)
theorem dX2_compress64k_250 : decode cX2_compress64k 250 = .ok (.iload 11, 2) := dk_21 11 (dk_at dksX2_compress64k_10 16 rfl rfl)
theorem dX2_compress64k_252 : decode cX2_compress64k 252 = .ok (.aload_n 3, 1) := dk_45 (dk_at dksX2_compress64k_10 18 rfl rfl)
theorem dX2_compress64k_253 : decode cX2_compress64k 253 = .ok (.iload 10, 2) := dk_21 10 (dk_at dksX2_compress64k_10 19 rfl rfl)
theorem dX2_compress64k_255 : decode cX2_compress64k 255 = .ok (.iload 18, 2) := dk_21 18 (dk_at dksX2_compress64k_10 21 rfl rfl)
theorem dX2_compress64k_257 : decode cX2_compress64k 257 = .ok (.invokestatic 66, 3) := dk_184 0 66 (dk_at dksX2_compress64k_11 0 rfl rfl)
theorem dX2_compress64k_260 : decode cX2_compress64k 260 = .ok (.iload 10, 2) := dk_21 10 (dk_at dksX2_compress64k_11 3 rfl rfl)
theorem dX2_compress64k_262 : decode cX2_compress64k 262 = .ok (.iload 18, 2) := dk_21 18 (dk_at dksX2_compress64k_11 5 rfl rfl)
theorem dX2_compress64k_264 : decode cX2_compress64k 264 = .ok (.iadd, 1) := dk_96 (dk_at dksX2_compress64k_11 7 rfl rfl)
theorem dX2_compress64k_265 : decode cX2_compress64k 265 = .ok (.istore 10, 2) := dk_54 10 (dk_at dksX2_compress64k_11 8 rfl rfl)
theorem dX2_compress64k_267 : decode cX2_compress64k 267 = .ok (.aload_n 3, 1) := dk_45 (dk_at dksX2_compress64k_11 10 rfl rfl)
theorem dX2_compress64k_268 : decode cX2_compress64k 268 = .ok (.iload 10, 2) := dk_21 10 (dk_at dksX2_compress64k_11 11 rfl rfl)
theorem dX2_compress64k_270 : decode cX2_compress64k 270 = .ok (.iload 9, 2) := dk_21 9 (dk_at dksX2_compress64k_11 13 rfl rfl)
theorem dX2_compress64k_272 : decode cX2_compress64k 272 = .ok (.iload 14, 2) := dk_21 14 (dk_at dksX2_compress64k_11 15 rfl rfl)
theorem dX2_compress64k_274 : decode cX2_compress64k 274 = .ok (.isub, 1) := dk_100 (dk_at dksX2_compress64k_11 17 rfl rfl)
theorem dX2_compress64k_275 : decode cX2_compress64k 275 = .ok (.i2s, 1) := dk_147 (dk_at dksX2_compress64k_11 18 rfl rfl)
theorem dX2_compress64k_276 : decode cX2_compress64k 276 = .ok (.invokestatic 70, 3) := dk_184 0 70 (dk_at dksX2_compress64k_11 19 rfl rfl)
theorem dX2_compress64k_279 : decode cX2_compress64k 279 = .ok (.iinc 10 2, 3) := dk_132 10 2 (dk_at dksX2_compress64k_12 0 rfl rfl)
theorem dX2_compress64k_282 : decode cX2_compress64k 282 = .ok (.iinc 9 4, 3) := dk_132 9 4 (dk_at dksX2_compress64k_12 3 rfl rfl)
theorem dX2_compress64k_285 : decode cX2_compress64k 285 = .ok (.iinc 14 4, 3) := dk_132 14 4 (dk_at dksX2_compress64k_12 6 rfl rfl)
theorem dX2_compress64k_288 : decode cX2_compress64k 288 = .ok (.aload_n 0, 1) := dk_42 (dk_at dksX2_compress64k_12 9 rfl rfl)
theorem dX2_compress64k_289 : decode cX2_compress64k 289 = .ok (.iload 14, 2) := dk_21 14 (dk_at dksX2_compress64k_12 10 rfl rfl)
theorem dX2_compress64k_291 : decode cX2_compress64k 291 = .ok (.iload 9, 2) := dk_21 9 (dk_at dksX2_compress64k_12 12 rfl rfl)
theorem dX2_compress64k_293 : decode cX2_compress64k 293 = .ok (.iload 7, 2) := dk_21 7 (dk_at dksX2_compress64k_12 14 rfl rfl)
theorem dX2_compress64k_295 : decode cX2_compress64k 295 = .ok (.invokestatic 73, 3) := dk_184 0 73 (dk_at dksX2_compress64k_12 16 rfl rfl)
theorem dX2_compress64k_298 : decode cX2_compress64k 298 = .ok (.istore 20, 2) := dk_54 20 (dk_at dksX2_compress64k_12 19 rfl rfl)
theorem dX2_compress64k_300 : decode cX2_compress64k 300 = .ok (.iload 5, 2) := dk_21 5 (dk_at dksX2_compress64k_12 21 rfl rfl)
theorem dX2_compress64k_302 : decode cX2_compress64k 302 = .ok (.iload 10, 2) := dk_21 10 (dk_at dksX2_compress64k_13 0 rfl rfl)
theorem dX2_compress64k_304 : decode cX2_compress64k 304 = .ok (.isub, 1) := dk_100 (dk_at dksX2_compress64k_13 2 rfl rfl)
theorem dX2_compress64k_305 : decode cX2_compress64k 305 = .ok (.bipush 6, 2) := dk_16 6 (dk_at dksX2_compress64k_13 3 rfl rfl)
theorem dX2_compress64k_307 : decode cX2_compress64k 307 = .ok (.iload 20, 2) := dk_21 20 (dk_at dksX2_compress64k_13 5 rfl rfl)
theorem dX2_compress64k_309 : decode cX2_compress64k 309 = .ok (.invokestatic 77, 3) := dk_184 0 77 (dk_at dksX2_compress64k_13 7 rfl rfl)
theorem dX2_compress64k_312 : decode cX2_compress64k 312 = .ok (.iadd, 1) := dk_96 (dk_at dksX2_compress64k_13 10 rfl rfl)
theorem dX2_compress64k_313 : decode cX2_compress64k 313 = .ok (.invokestatic 47, 3) := dk_184 0 47 (dk_at dksX2_compress64k_13 11 rfl rfl)
theorem dX2_compress64k_316 : decode cX2_compress64k 316 = .ok (.ifCond .eq 13, 3) := dk_153 0 13 (dk_at dksX2_compress64k_13 14 rfl rfl)
theorem dX2_compress64k_319 : decode cX2_compress64k 319 = .ok (.new 51, 3) := dk_187 0 51 (dk_at dksX2_compress64k_13 17 rfl rfl)
theorem dX2_compress64k_322 : decode cX2_compress64k 322 = .ok (.dup, 1) := dk_89 (dk_at dksX2_compress64k_13 20 rfl rfl)
theorem dX2_compress64k_323 : decode cX2_compress64k 323 = .ok (.ldc 53, 2) := dk_18 53 (dk_at dksX2_compress64k_13 21 rfl rfl)
theorem dX2_compress64k_325 : decode cX2_compress64k 325 = .ok (.invokespecial 55, 3) := dk_183 0 55 (dk_at dksX2_compress64k_14 0 rfl rfl)
theorem dX2_compress64k_328 : decode cX2_compress64k 328 = .ok (.athrow, 1) := dk_191 (dk_at dksX2_compress64k_14 3 rfl rfl)
theorem dX2_compress64k_329 : decode cX2_compress64k 329 = .ok (.iload 9, 2) := dk_21 9 (dk_at dksX2_compress64k_14 4 rfl rfl)
theorem dX2_compress64k_331 : decode cX2_compress64k 331 = .ok (.iload 20, 2) := dk_21 20 (dk_at dksX2_compress64k_14 6 rfl rfl)
theorem dX2_compress64k_333 : decode cX2_compress64k 333 = .ok (.iadd, 1) := dk_96 (dk_at dksX2_compress64k_14 8 rfl rfl)
theorem dX2_compress64k_334 : decode cX2_compress64k 334 = .ok (.istore 9, 2) := dk_54 9 (dk_at dksX2_compress64k_14 9 rfl rfl)
theorem dX2_compress64k_336 : decode cX2_compress64k 336 = .ok (.iload 20, 2) := dk_21 20 (dk_at dksX2_compress64k_14 11 rfl rfl)
theorem dX2_compress64k_338 : decode cX2_compress64k 338 = .ok (.bipush 15, 2) := dk_16 15 (dk_at dksX2_compress64k_14 13 rfl rfl)
theorem dX2_compress64k_340 : decode cX2_compress64k 340 = .ok (.if_icmp .lt 34, 3) := dk_161 0 34 (dk_at dksX2_compress64k_14 15 rfl rfl)
theorem dX2_compress64k_343 : decode cX2_compress64k 343 = .ok (.aload_n 3, 1) := dk_45 (dk_at dksX2_compress64k_14 18 rfl rfl)
theorem dX2_compress64k_344 : decode cX2_compress64k 344 = .ok (.iload 19, 2) := dk_21 19 (dk_at dksX2_compress64k_14 19 rfl rfl)
theorem dX2_compress64k_346 : decode cX2_compress64k 346 = .ok (.aload_n 3, 1) := dk_45 (dk_at dksX2_compress64k_14 21 rfl rfl)
theorem dX2_compress64k_347 : decode cX2_compress64k 347 = .ok (.iload 19, 2) := dk_21 19 (dk_at dksX2_compress64k_14 22 rfl rfl)
theorem dX2_compress64k_349 : decode cX2_compress64k 349 = .ok (.invokestatic 80, 3) := dk_184 0 80 (dk_at dksX2_compress64k_15 0 rfl rfl)
theorem dX2_compress64k_352 : decode cX2_compress64k 352 = .ok (.bipush 15, 2) := dk_16 15 (dk_at dksX2_compress64k_15 3 rfl rfl)
theorem dX2_compress64k_354 : decode cX2_compress64k 354 = .ok (.ior, 1) := dk_128 (dk_at dksX2_compress64k_15 5 rfl rfl)
theorem dX2_compress64k_355 : decode cX2_compress64k 355 = .ok (.invokestatic 58, 3) := dk_184 0 58 (dk_at dksX2_compress64k_15 6 rfl rfl)
theorem dX2_compress64k_358 : decode cX2_compress64k 358 = .ok (.iload 20, 2) := dk_21 20 (dk_at dksX2_compress64k_15 9 rfl rfl)
theorem dX2_compress64k_360 : decode cX2_compress64k 360 = .ok (.bipush 15, 2) := dk_16 15 (dk_at dksX2_compress64k_15 11 rfl rfl)
theorem dX2_compress64k_362 : decode cX2_compress64k 362 = .ok (.isub, 1) := dk_100 (dk_at dksX2_compress64k_15 13 rfl rfl)
theorem dX2_compress64k_363 : decode cX2_compress64k 363 = .ok (.aload_n 3, 1) := dk_45 (dk_at dksX2_compress64k_15 14 rfl rfl)
theorem dX2_compress64k_364 : decode cX2_compress64k 364 = .ok (.iload 10, 2) := dk_21 10 (dk_at dksX2_compress64k_15 15 rfl rfl)
theorem dX2_compress64k_366 : decode cX2_compress64k 366 = .ok (.invokestatic 62, 3) := dk_184 0 62 (dk_at dksX2_compress64k_15 17 rfl rfl)
theorem dX2_compress64k_369 : decode cX2_compress64k 369 = .ok (.istore 10, 2) := dk_54 10 (dk_at dksX2_compress64k_15 20 rfl rfl)
theorem dX2_compress64k_371 : decode cX2_compress64k 371 = .ok (.goto 18, 3) := dk_167 0 18 (dk_at dksX2_compress64k_16 0 rfl rfl)
theorem dX2_compress64k_374 : decode cX2_compress64k 374 = .ok (.aload_n 3, 1) := dk_45 (dk_at dksX2_compress64k_16 3 rfl rfl)
theorem dX2_compress64k_375 : decode cX2_compress64k 375 = .ok (.iload 19, 2) := dk_21 19 (dk_at dksX2_compress64k_16 4 rfl rfl)
theorem dX2_compress64k_377 : decode cX2_compress64k 377 = .ok (.aload_n 3, 1) := dk_45 (dk_at dksX2_compress64k_16 6 rfl rfl)
theorem dX2_compress64k_378 : decode cX2_compress64k 378 = .ok (.iload 19, 2) := dk_21 19 (dk_at dksX2_compress64k_16 7 rfl rfl)
theorem dX2_compress64k_380 : decode cX2_compress64k 380 = .ok (.invokestatic 80, 3) := dk_184 0 80 (dk_at dksX2_compress64k_16 9 rfl rfl)
theorem dX2_compress64k_383 : decode cX2_compress64k 383 = .ok (.iload 20, 2) := dk_21 20 (dk_at dksX2_compress64k_16 12 rfl rfl)
theorem dX2_compress64k_385 : decode cX2_compress64k 385 = .ok (.ior, 1) := dk_128 (dk_at dksX2_compress64k_16 14 rfl rfl)
theorem dX2_compress64k_386 : decode cX2_compress64k 386 = .ok (.invokestatic 58, 3) := dk_184 0 58 (dk_at dksX2_compress64k_16 15 rfl rfl)
theorem dX2_compress64k_389 : decode cX2_compress64k 389 = .ok (.iload 9, 2) := dk_21 9 (dk_at dksX2_compress64k_16 18 rfl rfl)
theorem dX2_compress64k_391 : decode cX2_compress64k 391 = .ok (.iload 8, 2) := dk_21 8 (dk_at dksX2_compress64k_16 20 rfl rfl)
theorem dX2_compress64k_393 : decode cX2_compress64k 393 = .ok (.if_icmp .le 10, 3) := dk_164 0 10 (dk_at dksX2_compress64k_17 0 rfl rfl)
theorem dX2_compress64k_396 : decode cX2_compress64k 396 = .ok (.iload 9, 2) := dk_21 9 (dk_at dksX2_compress64k_17 3 rfl rfl)
theorem dX2_compress64k_398 : decode cX2_compress64k 398 = .ok (.istore 11, 2) := dk_54 11 (dk_at dksX2_compress64k_17 5 rfl rfl)
theorem dX2_compress64k_400 : decode cX2_compress64k 400 = .ok (.goto 99, 3) := dk_167 0 99 (dk_at dksX2_compress64k_17 7 rfl rfl)
theorem dX2_compress64k_403 : decode cX2_compress64k 403 = .ok (.aload 12, 2) := dk_25 12 (dk_at dksX2_compress64k_17 10 rfl rfl)
theorem dX2_compress64k_405 : decode cX2_compress64k 405 = .ok (.aload_n 0, 1) := dk_42 (dk_at dksX2_compress64k_17 12 rfl rfl)
theorem dX2_compress64k_406 : decode cX2_compress64k 406 = .ok (.iload 9, 2) := dk_21 9 (dk_at dksX2_compress64k_17 13 rfl rfl)
theorem dX2_compress64k_408 : decode cX2_compress64k 408 = .ok (.iconst 2, 1) := dk_5 (dk_at dksX2_compress64k_17 15 rfl rfl)
theorem dX2_compress64k_409 : decode cX2_compress64k 409 = .ok (.isub, 1) := dk_100 (dk_at dksX2_compress64k_17 16 rfl rfl)
theorem dX2_compress64k_410 : decode cX2_compress64k 410 = .ok (.invokestatic 13, 3) := dk_184 0 13 (dk_at dksX2_compress64k_17 17 rfl rfl)
theorem dX2_compress64k_413 : decode cX2_compress64k 413 = .ok (.invokestatic 19, 3) := dk_184 0 19 (dk_at dksX2_compress64k_17 20 rfl rfl)
theorem dX2_compress64k_416 : decode cX2_compress64k 416 = .ok (.iload 9, 2) := dk_21 9 (dk_at dksX2_compress64k_18 0 rfl rfl)
theorem dX2_compress64k_418 : decode cX2_compress64k 418 = .ok (.iconst 2, 1) := dk_5 (dk_at dksX2_compress64k_18 2 rfl rfl)
theorem dX2_compress64k_419 : decode cX2_compress64k 419 = .ok (.isub, 1) := dk_100 (dk_at dksX2_compress64k_18 3 rfl rfl)
theorem dX2_compress64k_420 : decode cX2_compress64k 420 = .ok (.iload_n 1, 1) := dk_27 (dk_at dksX2_compress64k_18 4 rfl rfl)
theorem dX2_compress64k_421 : decode cX2_compress64k 421 = .ok (.isub, 1) := dk_100 (dk_at dksX2_compress64k_18 5 rfl rfl)
theorem dX2_compress64k_422 : decode cX2_compress64k 422 = .ok (.invokestatic 29, 3) := dk_184 0 29 (dk_at dksX2_compress64k_18 6 rfl rfl)
theorem dX2_compress64k_425 : decode cX2_compress64k 425 = .ok (.aload_n 0, 1) := dk_42 (dk_at dksX2_compress64k_18 9 rfl rfl)
theorem dX2_compress64k_426 : decode cX2_compress64k 426 = .ok (.iload 9, 2) := dk_21 9 (dk_at dksX2_compress64k_18 10 rfl rfl)
theorem dX2_compress64k_428 : decode cX2_compress64k 428 = .ok (.invokestatic 13, 3) := dk_184 0 13 (dk_at dksX2_compress64k_18 12 rfl rfl)
theorem dX2_compress64k_431 : decode cX2_compress64k 431 = .ok (.invokestatic 19, 3) := dk_184 0 19 (dk_at dksX2_compress64k_18 15 rfl rfl)
theorem dX2_compress64k_434 : decode cX2_compress64k 434 = .ok (.istore 21, 2) := dk_54 21 (dk_at dksX2_compress64k_18 18 rfl rfl)
theorem dX2_compress64k_436 : decode cX2_compress64k 436 = .ok (.iload_n 1, 1) := dk_27 (dk_at dksX2_compress64k_18 20 rfl rfl)
theorem dX2_compress64k_437 : decode cX2_compress64k 437 = .ok (.aload 12, 2) := dk_25 12 (dk_at dksX2_compress64k_18 21 rfl rfl)
theorem dX2_compress64k_439 : decode cX2_compress64k 439 = .ok (.iload 21, 2) := dk_21 21 (dk_at dksX2_compress64k_19 0 rfl rfl)
theorem dX2_compress64k_441 : decode cX2_compress64k 441 = .ok (.invokestatic 25, 3) := dk_184 0 25 (dk_at dksX2_compress64k_19 2 rfl rfl)
theorem dX2_compress64k_444 : decode cX2_compress64k 444 = .ok (.iadd, 1) := dk_96 (dk_at dksX2_compress64k_19 5 rfl rfl)
theorem dX2_compress64k_445 : decode cX2_compress64k 445 = .ok (.istore 14, 2) := dk_54 14 (dk_at dksX2_compress64k_19 6 rfl rfl)
theorem dX2_compress64k_447 : decode cX2_compress64k 447 = .ok (.aload 12, 2) := dk_25 12 (dk_at dksX2_compress64k_19 8 rfl rfl)
theorem dX2_compress64k_449 : decode cX2_compress64k 449 = .ok (.iload 21, 2) := dk_21 21 (dk_at dksX2_compress64k_19 10 rfl rfl)
theorem dX2_compress64k_451 : decode cX2_compress64k 451 = .ok (.iload 9, 2) := dk_21 9 (dk_at dksX2_compress64k_19 12 rfl rfl)
theorem dX2_compress64k_453 : decode cX2_compress64k 453 = .ok (.iload_n 1, 1) := dk_27 (dk_at dksX2_compress64k_19 14 rfl rfl)
theorem dX2_compress64k_454 : decode cX2_compress64k 454 = .ok (.isub, 1) := dk_100 (dk_at dksX2_compress64k_19 15 rfl rfl)
theorem dX2_compress64k_455 : decode cX2_compress64k 455 = .ok (.invokestatic 29, 3) := dk_184 0 29 (dk_at dksX2_compress64k_19 16 rfl rfl)
theorem dX2_compress64k_458 : decode cX2_compress64k 458 = .ok (.aload_n 0, 1) := dk_42 (dk_at dksX2_compress64k_19 19 rfl rfl)
theorem dX2_compress64k_459 : decode cX2_compress64k 459 = .ok (.iload 9, 2) := dk_21 9 (dk_at dksX2_compress64k_19 20 rfl rfl)
theorem dX2_compress64k_461 : decode cX2_compress64k 461 = .ok (.iload 14, 2) := dk_21 14 (dk_at dksX2_compress64k_19 22 rfl rfl)
theorem dX2_compress64k_463 : decode cX2_compress64k 463 = .ok (.invokestatic 33, 3) := dk_184 0 33 (dk_at dksX2_compress64k_20 0 rfl rfl)
theorem dX2_compress64k_466 : decode cX2_compress64k 466 = .ok (.ifCond .ne 6, 3) := dk_154 0 6 (dk_at dksX2_compress64k_20 3 rfl rfl)
theorem dX2_compress64k_469 : decode cX2_compress64k 469 = .ok (.goto 20, 3) := dk_167 0 20 (dk_at dksX2_compress64k_20 6 rfl rfl)
theorem dX2_compress64k_472 : decode cX2_compress64k 472 = .ok (.iload 10, 2) := dk_21 10 (dk_at dksX2_compress64k_20 9 rfl rfl)
theorem dX2_compress64k_474 : decode cX2_compress64k 474 = .ok (.iinc 10 1, 3) := dk_132 10 1 (dk_at dksX2_compress64k_20 11 rfl rfl)
theorem dX2_compress64k_477 : decode cX2_compress64k 477 = .ok (.istore 19, 2) := dk_54 19 (dk_at dksX2_compress64k_20 14 rfl rfl)
theorem dX2_compress64k_479 : decode cX2_compress64k 479 = .ok (.aload_n 3, 1) := dk_45 (dk_at dksX2_compress64k_20 16 rfl rfl)
theorem dX2_compress64k_480 : decode cX2_compress64k 480 = .ok (.iload 19, 2) := dk_21 19 (dk_at dksX2_compress64k_20 17 rfl rfl)
theorem dX2_compress64k_482 : decode cX2_compress64k 482 = .ok (.iconst 0, 1) := dk_3 (dk_at dksX2_compress64k_20 19 rfl rfl)
theorem dX2_compress64k_483 : decode cX2_compress64k 483 = .ok (.invokestatic 58, 3) := dk_184 0 58 (dk_at dksX2_compress64k_20 20 rfl rfl)
theorem dX2_compress64k_486 : decode cX2_compress64k 486 = .ok (.goto (-219), 3) := dk_167 255 37 (dk_at dksX2_compress64k_21 0 rfl rfl)
theorem dX2_compress64k_489 : decode cX2_compress64k 489 = .ok (.iload 9, 2) := dk_21 9 (dk_at dksX2_compress64k_21 3 rfl rfl)
theorem dX2_compress64k_491 : decode cX2_compress64k 491 = .ok (.iinc 9 1, 3) := dk_132 9 1 (dk_at dksX2_compress64k_21 5 rfl rfl)
theorem dX2_compress64k_494 : decode cX2_compress64k 494 = .ok (.istore 11, 2) := dk_54 11 (dk_at dksX2_compress64k_21 8 rfl rfl)
theorem dX2_compress64k_496 : decode cX2_compress64k 496 = .ok (.goto (-451), 3) := dk_167 254 61 (dk_at dksX2_compress64k_21 10 rfl rfl)
theorem dX2_compress64k_499 : decode cX2_compress64k 499 = .ok (.aload_n 0, 1) := dk_42 (dk_at dksX2_compress64k_21 13 rfl rfl)
theorem dX2_compress64k_500 : decode cX2_compress64k 500 = .ok (.iload 11, 2) := dk_21 11 (dk_at dksX2_compress64k_21 14 rfl rfl)
theorem dX2_compress64k_502 : decode cX2_compress64k 502 = .ok (.iload 6, 2) := dk_21 6 (dk_at dksX2_compress64k_21 16 rfl rfl)
theorem dX2_compress64k_504 : decode cX2_compress64k 504 = .ok (.iload 11, 2) := dk_21 11 (dk_at dksX2_compress64k_21 18 rfl rfl)
theorem dX2_compress64k_506 : decode cX2_compress64k 506 = .ok (.isub, 1) := dk_100 (dk_at dksX2_compress64k_21 20 rfl rfl)
theorem dX2_compress64k_507 : decode cX2_compress64k 507 = .ok (.aload_n 3, 1) := dk_45 (dk_at dksX2_compress64k_21 21 rfl rfl)
theorem dX2_compress64k_508 : decode cX2_compress64k 508 = .ok (.iload 10, 2) := dk_21 10 (dk_at dksX2_compress64k_21 22 rfl rfl)
theorem dX2_compress64k_510 : decode cX2_compress64k 510 = .ok (.iload 5, 2) := dk_21 5 (dk_at dksX2_compress64k_22 0 rfl rfl)
theorem dX2_compress64k_512 : decode cX2_compress64k 512 = .ok (.invokestatic 84, 3) := dk_184 0 84 (dk_at dksX2_compress64k_22 2 rfl rfl)
theorem dX2_compress64k_515 : decode cX2_compress64k 515 = .ok (.istore 10, 2) := dk_54 10 (dk_at dksX2_compress64k_22 5 rfl rfl)
theorem dX2_compress64k_517 : decode cX2_compress64k 517 = .ok (.iload 10, 2) := dk_21 10 (dk_at dksX2_compress64k_22 7 rfl rfl)
theorem dX2_compress64k_519 : decode cX2_compress64k 519 = .ok (.iload 4, 2) := dk_21 4 (dk_at dksX2_compress64k_22 9 rfl rfl)
theorem dX2_compress64k_521 : decode cX2_compress64k 521 = .ok (.isub, 1) := dk_100 (dk_at dksX2_compress64k_22 11 rfl rfl)
theorem dX2_compress64k_522 : decode cX2_compress64k 522 = .ok (.ireturn, 1) := dk_172 (dk_at dksX2_compress64k_22 12 rfl rfl)
theorem q5 : (Jvm.Cond.initialized "LZ4JavaSafeCompressor") ∈ lw_all := lw_g (lw_at lw_m1 3 rfl) rfl
theorem q42 : (Jvm.Cond.instantiable "LZ4JavaSafeCompressor" (0 : Nat)) ∈ lw_all := lw_g (lw_at lw_m1 40 rfl) rfl
theorem q44 : (Jvm.Cond.instanceMethod ({ cls := "LZ4JavaSafeCompressor", name := "<init>", desc := "()V" } : Jvm.MethodName)) ∈ lw_all := lw_g (lw_at lw_m1 42 rfl) rfl
theorem q45 : (Jvm.Cond.code ({ cls := "LZ4JavaSafeCompressor", name := "<init>", desc := "()V" } : Jvm.MethodName) prog_7_method_1_code (1 : Nat) (Option.none : Option Jvm.ClassFile.FieldType)) ∈ lw_all := lw_g (lw_at lw_m1 43 rfl) rfl
theorem q46 : (Jvm.Cond.methodLink "LZ4JavaSafeCompressor" (1 : Nat) ({ cls := "LZ4Compressor", name := "<init>", desc := "()V" } : Jvm.MethodName)) ∈ lw_all := lw_g (lw_at lw_m1 44 rfl) rfl
theorem q50 : (Jvm.Cond.superclass "LZ4JavaSafeCompressor" "LZ4Compressor") ∈ lw_all := lw_g (lw_at lw_m1 48 rfl) rfl
theorem q115 : (Jvm.Cond.selects "LZ4JavaSafeCompressor" ({ cls := "LZ4Compressor", name := "compress", desc := "([BII[BII)I" } : Jvm.MethodName) ({ cls := "LZ4JavaSafeCompressor", name := "compress", desc := "([BII[BII)I" } : Jvm.MethodName)) ∈ lw_all := lw_g (lw_at lw_m1 113 rfl) rfl
theorem q116 : (Jvm.Cond.instanceMethod ({ cls := "LZ4JavaSafeCompressor", name := "compress", desc := "([BII[BII)I" } : Jvm.MethodName)) ∈ lw_all := lw_g (lw_at lw_m1 114 rfl) rfl
theorem q117 : (Jvm.Cond.code ({ cls := "LZ4JavaSafeCompressor", name := "compress", desc := "([BII[BII)I" } : Jvm.MethodName) prog_7_method_3_code (25 : Nat) (Option.some Jvm.ClassFile.FieldType.int)) ∈ lw_all := lw_g (lw_at lw_m1 115 rfl) rfl
theorem q118 : (Jvm.Cond.methodLink "LZ4JavaSafeCompressor" (88 : Nat) ({ cls := "SafeUtils", name := "checkRange", desc := "([BII)V" } : Jvm.MethodName)) ∈ lw_all := lw_g (lw_at lw_m1 116 rfl) rfl
theorem q212 : (Jvm.Cond.constant "LZ4JavaSafeCompressor" (91 : Nat) (65547 : Int32)) ∈ lw_all := lw_g (lw_at lw_m1 210 rfl) rfl
theorem q213 : (Jvm.Cond.methodLink "LZ4JavaSafeCompressor" (92 : Nat) ({ cls := "LZ4JavaSafeCompressor", name := "compress64k", desc := "([BII[BII)I" } : Jvm.MethodName)) ∈ lw_all := lw_g (lw_at lw_m1 211 rfl) rfl
theorem q214 : (Jvm.Cond.static ({ cls := "LZ4JavaSafeCompressor", name := "compress64k", desc := "([BII[BII)I" } : Jvm.MethodName)) ∈ lw_all := lw_g (lw_at lw_m1 212 rfl) rfl
theorem q215 : (Jvm.Cond.code ({ cls := "LZ4JavaSafeCompressor", name := "compress64k", desc := "([BII[BII)I" } : Jvm.MethodName) prog_7_method_2_code (22 : Nat) (Option.some Jvm.ClassFile.FieldType.int)) ∈ lw_all := lw_g (lw_at lw_m1 213 rfl) rfl
theorem q216 : (Jvm.Cond.fieldLink "LZ4JavaSafeCompressor" (9 : Nat) "LZ4Constants" "SKIP_STRENGTH" "I") ∈ lw_all := lw_g (lw_at lw_m1 214 rfl) rfl
theorem q218 : (Jvm.Cond.methodLink "LZ4JavaSafeCompressor" (13 : Nat) ({ cls := "SafeUtils", name := "readInt", desc := "([BI)I" } : Jvm.MethodName)) ∈ lw_all := lw_g (lw_at lw_m1 216 rfl) rfl
theorem q224 : (Jvm.Cond.methodLink "LZ4JavaSafeCompressor" (19 : Nat) ({ cls := "LZ4Utils", name := "hash64k", desc := "(I)I" } : Jvm.MethodName)) ∈ lw_all := lw_g (lw_at lw_m1 222 rfl) rfl
theorem q228 : (Jvm.Cond.methodLink "LZ4JavaSafeCompressor" (25 : Nat) ({ cls := "SafeUtils", name := "readShort", desc := "([SI)I" } : Jvm.MethodName)) ∈ lw_all := lw_g (lw_at lw_m1 226 rfl) rfl
theorem q232 : (Jvm.Cond.methodLink "LZ4JavaSafeCompressor" (29 : Nat) ({ cls := "SafeUtils", name := "writeShort", desc := "([SII)V" } : Jvm.MethodName)) ∈ lw_all := lw_g (lw_at lw_m1 230 rfl) rfl
theorem q235 : (Jvm.Cond.methodLink "LZ4JavaSafeCompressor" (33 : Nat) ({ cls := "LZ4SafeUtils", name := "readIntEquals", desc := "([BII)Z" } : Jvm.MethodName)) ∈ lw_all := lw_g (lw_at lw_m1 233 rfl) rfl
theorem q238 : (Jvm.Cond.methodLink "LZ4JavaSafeCompressor" (39 : Nat) ({ cls := "LZ4SafeUtils", name := "commonBytesBackward", desc := "([BIIII)I" } : Jvm.MethodName)) ∈ lw_all := lw_g (lw_at lw_m1 236 rfl) rfl
theorem q241 : (Jvm.Cond.methodLink "LZ4JavaSafeCompressor" (43 : Nat) ({ cls := "LZ4Utils", name := "sequenceLength", desc := "(II)I" } : Jvm.MethodName)) ∈ lw_all := lw_g (lw_at lw_m1 239 rfl) rfl
theorem q266 : (Jvm.Cond.methodLink "LZ4JavaSafeCompressor" (47 : Nat) ({ cls := "LZ4Utils", name := "notEnoughSpace", desc := "(II)Z" } : Jvm.MethodName)) ∈ lw_all := lw_g (lw_at lw_m2 24 rfl) rfl
theorem q269 : (Jvm.Cond.classLink "LZ4JavaSafeCompressor" (51 : Nat) "LZ4Exception") ∈ lw_all := lw_g (lw_at lw_m2 27 rfl) rfl
theorem q270 : (Jvm.Cond.stringRef "LZ4JavaSafeCompressor" (53 : Nat) "maxDestLen is too small") ∈ lw_tbl := lw_at lw_m2 28 rfl
theorem q271 : (Jvm.Cond.methodLink "LZ4JavaSafeCompressor" (55 : Nat) ({ cls := "LZ4Exception", name := "<init>", desc := "(Ljava/lang/String;)V" } : Jvm.MethodName)) ∈ lw_all := lw_g (lw_at lw_m2 29 rfl) rfl
theorem q272 : (Jvm.Cond.methodLink "LZ4JavaSafeCompressor" (58 : Nat) ({ cls := "SafeUtils", name := "writeByte", desc := "([BII)V" } : Jvm.MethodName)) ∈ lw_all := lw_g (lw_at lw_m2 30 rfl) rfl
theorem q275 : (Jvm.Cond.methodLink "LZ4JavaSafeCompressor" (62 : Nat) ({ cls := "LZ4SafeUtils", name := "writeLen", desc := "(I[BI)I" } : Jvm.MethodName)) ∈ lw_all := lw_g (lw_at lw_m2 33 rfl) rfl
theorem q278 : (Jvm.Cond.methodLink "LZ4JavaSafeCompressor" (66 : Nat) ({ cls := "LZ4SafeUtils", name := "wildArraycopy", desc := "([BI[BII)V" } : Jvm.MethodName)) ∈ lw_all := lw_g (lw_at lw_m2 36 rfl) rfl
theorem q293 : (Jvm.Cond.methodLink "LZ4JavaSafeCompressor" (70 : Nat) ({ cls := "SafeUtils", name := "writeShortLE", desc := "([BII)V" } : Jvm.MethodName)) ∈ lw_all := lw_g (lw_at lw_m2 51 rfl) rfl
theorem q296 : (Jvm.Cond.methodLink "LZ4JavaSafeCompressor" (73 : Nat) ({ cls := "LZ4SafeUtils", name := "commonBytes", desc := "([BIII)I" } : Jvm.MethodName)) ∈ lw_all := lw_g (lw_at lw_m2 54 rfl) rfl
theorem q299 : (Jvm.Cond.methodLink "LZ4JavaSafeCompressor" (77 : Nat) ({ cls := "LZ4Utils", name := "lengthOfEncodedInteger", desc := "(I)I" } : Jvm.MethodName)) ∈ lw_all := lw_g (lw_at lw_m2 57 rfl) rfl
theorem q300 : (Jvm.Cond.methodLink "LZ4JavaSafeCompressor" (80 : Nat) ({ cls := "SafeUtils", name := "readByte", desc := "([BI)B" } : Jvm.MethodName)) ∈ lw_all := lw_g (lw_at lw_m2 58 rfl) rfl
theorem q303 : (Jvm.Cond.methodLink "LZ4JavaSafeCompressor" (84 : Nat) ({ cls := "LZ4SafeUtils", name := "lastLiterals", desc := "([BII[BII)I" } : Jvm.MethodName)) ∈ lw_all := lw_g (lw_at lw_m2 61 rfl) rfl
theorem q322 : (Jvm.Cond.methodLink "LZ4JavaSafeCompressor" (97 : Nat) ({ cls := "java/util/Arrays", name := "fill", desc := "([II)V" } : Jvm.MethodName)) ∈ lw_all := lw_g (lw_at lw_m2 80 rfl) rfl
theorem q325 : (Jvm.Cond.methodLink "LZ4JavaSafeCompressor" (103 : Nat) ({ cls := "LZ4Utils", name := "hash", desc := "(I)I" } : Jvm.MethodName)) ∈ lw_all := lw_g (lw_at lw_m2 83 rfl) rfl
theorem q328 : (Jvm.Cond.methodLink "LZ4JavaSafeCompressor" (106 : Nat) ({ cls := "SafeUtils", name := "readInt", desc := "([II)I" } : Jvm.MethodName)) ∈ lw_all := lw_g (lw_at lw_m2 86 rfl) rfl
theorem q331 : (Jvm.Cond.methodLink "LZ4JavaSafeCompressor" (109 : Nat) ({ cls := "SafeUtils", name := "writeInt", desc := "([III)V" } : Jvm.MethodName)) ∈ lw_all := lw_g (lw_at lw_m2 89 rfl) rfl
theorem q334 : (Jvm.Cond.constant "LZ4JavaSafeCompressor" (113 : Nat) (65536 : Int32)) ∈ lw_all := lw_g (lw_at lw_m2 92 rfl) rfl
/-! LZ4SafeDecompressor -/
set_option maxRecDepth 100000
def RX3 : String := "LZ4SafeDecompressor"
abbrev cX3_init : ByteArray := prog_9_method_1_code
def yX3_init : MethodName := ⟨RX3, "<init>", "()V"⟩
theorem dX3_init_0 : decode cX3_init 0 = .ok (.aload_n 0, 1) := by decide +kernel
theorem dX3_init_1 : decode cX3_init 1 = .ok (.invokespecial 1, 3) := by decide +kernel
theorem dX3_init_4 : decode cX3_init 4 = .ok (.return_, 1) := by decide +kernel
theorem q6 : (Jvm.Cond.initialized "LZ4SafeDecompressor") ∈ lw_all := lw_g (lw_at lw_m1 4 rfl) rfl
theorem q57 : (Jvm.Cond.instanceMethod ({ cls := "LZ4SafeDecompressor", name := "<init>", desc := "()V" } : Jvm.MethodName)) ∈ lw_all := lw_g (lw_at lw_m1 55 rfl) rfl
theorem q58 : (Jvm.Cond.code ({ cls := "LZ4SafeDecompressor", name := "<init>", desc := "()V" } : Jvm.MethodName) prog_9_method_1_code (1 : Nat) (Option.none : Option Jvm.ClassFile.FieldType)) ∈ lw_all := lw_g (lw_at lw_m1 56 rfl) rfl
theorem q59 : (Jvm.Cond.methodLink "LZ4SafeDecompressor" (1 : Nat) ({ cls := "java/lang/Object", name := "<init>", desc := "()V" } : Jvm.MethodName)) ∈ lw_all := lw_g (lw_at lw_m1 57 rfl) rfl
theorem q341 : (Jvm.Cond.declares ({ cls := "LZ4SafeDecompressor", name := "decompress", desc := "([BII[BII)I" } : Jvm.MethodName)) ∈ lw_tbl := lw_at lw_m2 99 rfl
theorem q342 : (Jvm.Cond.sameMethod "LZ4SafeDecompressor" "LZ4SafeDecompressor" "decompress" "([BII[BII)I") ∈ lw_all := lw_g (lw_at lw_m2 100 rfl) rfl
/-! LZ4JavaSafeSafeDecompressor -/
set_option maxRecDepth 100000
def RX4 : String := "LZ4JavaSafeSafeDecompressor"
abbrev cX4_init : ByteArray := prog_8_method_1_code
def yX4_init : MethodName := ⟨RX4, "<init>", "()V"⟩
theorem dX4_init_0 : decode cX4_init 0 = .ok (.aload_n 0, 1) := by decide +kernel
theorem dX4_init_1 : decode cX4_init 1 = .ok (.invokespecial 1, 3) := by decide +kernel
theorem dX4_init_4 : decode cX4_init 4 = .ok (.return_, 1) := by decide +kernel
abbrev cX4_decompress : ByteArray := prog_8_method_2_code
def yX4_decompress : MethodName := ⟨RX4, "decompress", "([BII[BII)I"⟩
def dkwX4_decompress_23 : List UInt8 := [21, 10, 21, 5, 100, 172]
abbrev dktX4_decompress_23 : List UInt8 := dkwX4_decompress_23 ++ []
def dkwX4_decompress_22 : List UInt8 := [184, 0, 55, 167, 0, 14, 25, 4, 21, 15, 21, 10, 21, 17, 184, 0, 59, 21, 17, 54, 10, 167, 254, 45]
abbrev dktX4_decompress_22 : List UInt8 := dkwX4_decompress_22 ++ dktX4_decompress_23
def dkwX4_decompress_21 : List UInt8 := [21, 8, 164, 0, 13, 187, 0, 17, 89, 18, 24, 183, 0, 21, 191, 25, 4, 21, 15, 21, 10, 21, 16]
abbrev dktX4_decompress_21 : List UInt8 := dkwX4_decompress_21 ++ dktX4_decompress_22
def dkwX4_decompress_20 : List UInt8 := [21, 17, 184, 0, 52, 167, 0, 58, 21, 8, 21, 17, 100, 16, 8, 184, 0, 30, 153, 0, 34, 21, 17]
abbrev dktX4_decompress_20 : List UInt8 := dkwX4_decompress_20 ++ dktX4_decompress_21
def dkwX4_decompress_19 : List UInt8 := [154, 0, 32, 21, 17, 21, 8, 164, 0, 13, 187, 0, 17, 89, 18, 24, 183, 0, 21, 191, 25, 4, 21, 10]
abbrev dktX4_decompress_19 : List UInt8 := dkwX4_decompress_19 ++ dktX4_decompress_20
def dkwX4_decompress_18 : List UInt8 := [21, 16, 96, 54, 17, 21, 17, 21, 10, 162, 0, 13, 187, 0, 17, 89, 18, 50, 183, 0, 21, 191, 21, 14]
abbrev dktX4_decompress_18 : List UInt8 := dkwX4_decompress_18 ++ dktX4_decompress_19
def dkwX4_decompress_17 : List UInt8 := [89, 18, 50, 183, 0, 21, 191, 21, 16, 21, 17, 17, 0, 255, 126, 96, 54, 16, 132, 16, 4, 21, 10]
abbrev dktX4_decompress_17 : List UInt8 := dkwX4_decompress_17 ++ dktX4_decompress_18
def dkwX4_decompress_16 : List UInt8 := [184, 0, 13, 89, 54, 17, 2, 160, 0, 24, 196, 132, 0, 16, 0, 255, 21, 16, 156, 255, 225, 187, 0, 17]
abbrev dktX4_decompress_16 : List UInt8 := dkwX4_decompress_16 ++ dktX4_decompress_17
def dkwX4_decompress_15 : List UInt8 := [21, 16, 16, 15, 160, 0, 61, 2, 54, 17, 21, 9, 21, 7, 162, 0, 40, 43, 21, 9, 132, 9, 1]
abbrev dktX4_decompress_15 : List UInt8 := dkwX4_decompress_15 ++ dktX4_decompress_16
def dkwX4_decompress_14 : List UInt8 := [21, 15, 21, 5, 162, 0, 13, 187, 0, 17, 89, 18, 24, 183, 0, 21, 191, 21, 11, 16, 15, 126, 54, 16]
abbrev dktX4_decompress_14 : List UInt8 := dkwX4_decompress_14 ++ dktX4_decompress_15
def dkwX4_decompress_13 : List UInt8 := [54, 9, 21, 13, 54, 10, 43, 21, 9, 184, 0, 46, 54, 14, 132, 9, 2, 21, 10, 21, 14, 100, 54, 15]
abbrev dktX4_decompress_13 : List UInt8 := dkwX4_decompress_13 ++ dktX4_decompress_14
def dkwX4_decompress_12 : List UInt8 := [21, 13, 54, 10, 167, 1, 0, 43, 21, 9, 25, 4, 21, 10, 21, 12, 184, 0, 43, 21, 9, 21, 12, 96]
abbrev dktX4_decompress_12 : List UInt8 := dkwX4_decompress_12 ++ dktX4_decompress_13
def dkwX4_decompress_11 : List UInt8 := [183, 0, 21, 191, 43, 21, 9, 25, 4, 21, 10, 21, 12, 184, 0, 37, 21, 9, 21, 12, 96, 54, 9]
abbrev dktX4_decompress_11 : List UInt8 := dkwX4_decompress_11 ++ dktX4_decompress_12
def dkwX4_decompress_10 : List UInt8 := [187, 0, 17, 89, 183, 0, 36, 191, 21, 9, 21, 12, 96, 21, 7, 159, 0, 13, 187, 0, 17, 89, 18, 24]
abbrev dktX4_decompress_10 : List UInt8 := dkwX4_decompress_10 ++ dktX4_decompress_11
def dkwX4_decompress_9 : List UInt8 := [21, 7, 21, 9, 100, 16, 8, 21, 12, 96, 184, 0, 30, 153, 0, 64, 21, 13, 21, 8, 164, 0, 11]
abbrev dktX4_decompress_9 : List UInt8 := dkwX4_decompress_9 ++ dktX4_decompress_10
def dkwX4_decompress_8 : List UInt8 := [187, 0, 17, 89, 18, 28, 183, 0, 21, 191, 21, 8, 21, 13, 100, 16, 8, 184, 0, 30, 154, 0, 19]
abbrev dktX4_decompress_8 : List UInt8 := dkwX4_decompress_8 ++ dktX4_decompress_9
def dkwX4_decompress_7 : List UInt8 := [21, 13, 17, 0, 255, 126, 96, 54, 12, 21, 10, 21, 12, 96, 54, 13, 21, 13, 21, 10, 162, 0, 13]
abbrev dktX4_decompress_7 : List UInt8 := dkwX4_decompress_7 ++ dktX4_decompress_8
def dkwX4_decompress_6 : List UInt8 := [196, 132, 0, 12, 0, 255, 21, 12, 156, 255, 225, 187, 0, 17, 89, 18, 28, 183, 0, 21, 191, 21, 12]
abbrev dktX4_decompress_6 : List UInt8 := dkwX4_decompress_6 ++ dktX4_decompress_7
def dkwX4_decompress_5 : List UInt8 := [21, 7, 162, 0, 40, 43, 21, 9, 132, 9, 1, 184, 0, 13, 89, 54, 13, 2, 160, 0, 24]
abbrev dktX4_decompress_5 : List UInt8 := dkwX4_decompress_5 ++ dktX4_decompress_6
def dkwX4_decompress_4 : List UInt8 := [54, 11, 132, 9, 1, 21, 11, 7, 124, 54, 12, 21, 12, 16, 15, 160, 0, 61, 2, 54, 13, 21, 9]
abbrev dktX4_decompress_4 : List UInt8 := dkwX4_decompress_4 ++ dktX4_decompress_5
def dkwX4_decompress_3 : List UInt8 := [161, 0, 13, 187, 0, 17, 89, 18, 24, 183, 0, 21, 191, 43, 21, 9, 184, 0, 13, 17, 0, 255, 126]
abbrev dktX4_decompress_3 : List UInt8 := dkwX4_decompress_3 ++ dktX4_decompress_4
def dkwX4_decompress_2 : List UInt8 := [29, 96, 54, 7, 21, 5, 21, 6, 96, 54, 8, 28, 54, 9, 21, 5, 54, 10, 21, 9, 21, 7]
abbrev dktX4_decompress_2 : List UInt8 := dkwX4_decompress_2 ++ dktX4_decompress_3
def dkwX4_decompress_1 : List UInt8 := [160, 0, 11, 43, 28, 184, 0, 13, 153, 0, 13, 187, 0, 17, 89, 18, 19, 183, 0, 21, 191, 3, 172, 28]
abbrev dktX4_decompress_1 : List UInt8 := dkwX4_decompress_1 ++ dktX4_decompress_2
def dkwX4_decompress_0 : List UInt8 := [43, 28, 29, 184, 0, 7, 25, 4, 21, 5, 21, 6, 184, 0, 7, 21, 6, 154, 0, 28, 29, 4]
abbrev dktX4_decompress_0 : List UInt8 := dkwX4_decompress_0 ++ dktX4_decompress_1
theorem dksX4_decompress_0 : cX4_decompress.data.toList.drop 0 = dktX4_decompress_0 := by decide +kernel
theorem dksX4_decompress_1 : cX4_decompress.data.toList.drop 22 = dktX4_decompress_1 := dk_seg dksX4_decompress_0 22 rfl rfl
theorem dksX4_decompress_2 : cX4_decompress.data.toList.drop 46 = dktX4_decompress_2 := dk_seg dksX4_decompress_1 24 rfl rfl
theorem dksX4_decompress_3 : cX4_decompress.data.toList.drop 68 = dktX4_decompress_3 := dk_seg dksX4_decompress_2 22 rfl rfl
theorem dksX4_decompress_4 : cX4_decompress.data.toList.drop 91 = dktX4_decompress_4 := dk_seg dksX4_decompress_3 23 rfl rfl
theorem dksX4_decompress_5 : cX4_decompress.data.toList.drop 114 = dktX4_decompress_5 := dk_seg dksX4_decompress_4 23 rfl rfl
theorem dksX4_decompress_6 : cX4_decompress.data.toList.drop 135 = dktX4_decompress_6 := dk_seg dksX4_decompress_5 21 rfl rfl
theorem dksX4_decompress_7 : cX4_decompress.data.toList.drop 158 = dktX4_decompress_7 := dk_seg dksX4_decompress_6 23 rfl rfl
theorem dksX4_decompress_8 : cX4_decompress.data.toList.drop 181 = dktX4_decompress_8 := dk_seg dksX4_decompress_7 23 rfl rfl
theorem dksX4_decompress_9 : cX4_decompress.data.toList.drop 204 = dktX4_decompress_9 := dk_seg dksX4_decompress_8 23 rfl rfl
theorem dksX4_decompress_10 : cX4_decompress.data.toList.drop 227 = dktX4_decompress_10 := dk_seg dksX4_decompress_9 23 rfl rfl
theorem dksX4_decompress_11 : cX4_decompress.data.toList.drop 251 = dktX4_decompress_11 := dk_seg dksX4_decompress_10 24 rfl rfl
theorem dksX4_decompress_12 : cX4_decompress.data.toList.drop 274 = dktX4_decompress_12 := dk_seg dksX4_decompress_11 23 rfl rfl
theorem dksX4_decompress_13 : cX4_decompress.data.toList.drop 298 = dktX4_decompress_13 := dk_seg dksX4_decompress_12 24 rfl rfl
theorem dksX4_decompress_14 : cX4_decompress.data.toList.drop 322 = dktX4_decompress_14 := dk_seg dksX4_decompress_13 24 rfl rfl
theorem dksX4_decompress_15 : cX4_decompress.data.toList.drop 346 = dktX4_decompress_15 := dk_seg dksX4_decompress_14 24 rfl rfl
theorem dksX4_decompress_16 : cX4_decompress.data.toList.drop 369 = dktX4_decompress_16 := dk_seg dksX4_decompress_15 23 rfl rfl
theorem dksX4_decompress_17 : cX4_decompress.data.toList.drop 393 = dktX4_decompress_17 := dk_seg dksX4_decompress_16 24 rfl rfl
theorem dksX4_decompress_18 : cX4_decompress.data.toList.drop 416 = dktX4_decompress_18 := dk_seg dksX4_decompress_17 23 rfl rfl
theorem dksX4_decompress_19 : cX4_decompress.data.toList.drop 440 = dktX4_decompress_19 := dk_seg dksX4_decompress_18 24 rfl rfl
theorem dksX4_decompress_20 : cX4_decompress.data.toList.drop 464 = dktX4_decompress_20 := dk_seg dksX4_decompress_19 24 rfl rfl
theorem dksX4_decompress_21 : cX4_decompress.data.toList.drop 487 = dktX4_decompress_21 := dk_seg dksX4_decompress_20 23 rfl rfl
theorem dksX4_decompress_22 : cX4_decompress.data.toList.drop 510 = dktX4_decompress_22 := dk_seg dksX4_decompress_21 23 rfl rfl
theorem dksX4_decompress_23 : cX4_decompress.data.toList.drop 534 = dktX4_decompress_23 := dk_seg dksX4_decompress_22 24 rfl rfl
theorem dX4_decompress_0 : decode cX4_decompress 0 = .ok (.aload_n 1, 1) := dk_43 (dk_at dksX4_decompress_0 0 rfl rfl)
theorem dX4_decompress_1 : decode cX4_decompress 1 = .ok (.iload_n 2, 1) := dk_28 (dk_at dksX4_decompress_0 1 rfl rfl)
theorem dX4_decompress_2 : decode cX4_decompress 2 = .ok (.iload_n 3, 1) := dk_29 (dk_at dksX4_decompress_0 2 rfl rfl)
theorem dX4_decompress_3 : decode cX4_decompress 3 = .ok (.invokestatic 7, 3) := dk_184 0 7 (dk_at dksX4_decompress_0 3 rfl rfl)
theorem dX4_decompress_6 : decode cX4_decompress 6 = .ok (.aload 4, 2) := dk_25 4 (dk_at dksX4_decompress_0 6 rfl rfl)
theorem dX4_decompress_8 : decode cX4_decompress 8 = .ok (.iload 5, 2) := dk_21 5 (dk_at dksX4_decompress_0 8 rfl rfl)
theorem dX4_decompress_10 : decode cX4_decompress 10 = .ok (.iload 6, 2) := dk_21 6 (dk_at dksX4_decompress_0 10 rfl rfl)
theorem dX4_decompress_12 : decode cX4_decompress 12 = .ok (.invokestatic 7, 3) := dk_184 0 7 (dk_at dksX4_decompress_0 12 rfl rfl)
theorem dX4_decompress_15 : decode cX4_decompress 15 = .ok (.iload 6, 2) := dk_21 6 (dk_at dksX4_decompress_0 15 rfl rfl)
theorem dX4_decompress_17 : decode cX4_decompress 17 = .ok (.ifCond .ne 28, 3) := dk_154 0 28 (dk_at dksX4_decompress_0 17 rfl rfl)
theorem dX4_decompress_20 : decode cX4_decompress 20 = .ok (.iload_n 3, 1) := dk_29 (dk_at dksX4_decompress_0 20 rfl rfl)
theorem dX4_decompress_21 : decode cX4_decompress 21 = .ok (.iconst 1, 1) := dk_4 (dk_at dksX4_decompress_0 21 rfl rfl)
theorem dX4_decompress_22 : decode cX4_decompress 22 = .ok (.if_icmp .ne 11, 3) := dk_160 0 11 (dk_at dksX4_decompress_1 0 rfl rfl)
theorem dX4_decompress_25 : decode cX4_decompress 25 = .ok (.aload_n 1, 1) := dk_43 (dk_at dksX4_decompress_1 3 rfl rfl)
theorem dX4_decompress_26 : decode cX4_decompress 26 = .ok (.iload_n 2, 1) := dk_28 (dk_at dksX4_decompress_1 4 rfl rfl)
theorem dX4_decompress_27 : decode cX4_decompress 27 = .ok (.invokestatic 13, 3) := dk_184 0 13 (dk_at dksX4_decompress_1 5 rfl rfl)
theorem dX4_decompress_30 : decode cX4_decompress 30 = .ok (.ifCond .eq 13, 3) := dk_153 0 13 (dk_at dksX4_decompress_1 8 rfl rfl)
theorem dX4_decompress_33 : decode cX4_decompress 33 = .ok (.new 17, 3) := dk_187 0 17 (dk_at dksX4_decompress_1 11 rfl rfl)
theorem dX4_decompress_36 : decode cX4_decompress 36 = .ok (.dup, 1) := dk_89 (dk_at dksX4_decompress_1 14 rfl rfl)
theorem dX4_decompress_37 : decode cX4_decompress 37 = .ok (.ldc 19, 2) := dk_18 19 (dk_at dksX4_decompress_1 15 rfl rfl)
theorem dX4_decompress_39 : decode cX4_decompress 39 = .ok (.invokespecial 21, 3) := dk_183 0 21 (dk_at dksX4_decompress_1 17 rfl rfl)
theorem dX4_decompress_42 : decode cX4_decompress 42 = .ok (.athrow, 1) := dk_191 (dk_at dksX4_decompress_1 20 rfl rfl)
theorem dX4_decompress_43 : decode cX4_decompress 43 = .ok (.iconst 0, 1) := dk_3 (dk_at dksX4_decompress_1 21 rfl rfl)
theorem dX4_decompress_44 : decode cX4_decompress 44 = .ok (.ireturn, 1) := dk_172 (dk_at dksX4_decompress_1 22 rfl rfl)
theorem dX4_decompress_45 : decode cX4_decompress 45 = .ok (.iload_n 2, 1) := dk_28 (dk_at dksX4_decompress_1 23 rfl rfl)
theorem dX4_decompress_46 : decode cX4_decompress 46 = .ok (.iload_n 3, 1) := dk_29 (dk_at dksX4_decompress_2 0 rfl rfl)
theorem dX4_decompress_47 : decode cX4_decompress 47 = .ok (.iadd, 1) := dk_96 (dk_at dksX4_decompress_2 1 rfl rfl)
theorem dX4_decompress_48 : decode cX4_decompress 48 = .ok (.istore 7, 2) := dk_54 7 (dk_at dksX4_decompress_2 2 rfl rfl)
theorem dX4_decompress_50 : decode cX4_decompress 50 = .ok (.iload 5, 2) := dk_21 5 (dk_at dksX4_decompress_2 4 rfl rfl)
theorem dX4_decompress_52 : decode cX4_decompress 52 = .ok (.iload 6, 2) := dk_21 6 (dk_at dksX4_decompress_2 6 rfl rfl)
theorem dX4_decompress_54 : decode cX4_decompress 54 = .ok (.iadd, 1) := dk_96 (dk_at dksX4_decompress_2 8 rfl rfl)
theorem dX4_decompress_55 : decode cX4_decompress 55 = .ok (.istore 8, 2) := dk_54 8 (dk_at dksX4_decompress_2 9 rfl rfl)
theorem dX4_decompress_57 : decode cX4_decompress 57 = .ok (.iload_n 2, 1) := dk_28 (dk_at dksX4_decompress_2 11 rfl rfl)
theorem dX4_decompress_58 : decode cX4_decompress 58 = .ok (.istore 9, 2) := dk_54 9 (dk_at dksX4_decompress_2 12 rfl rfl)
theorem dX4_decompress_60 : decode cX4_decompress 60 = .ok (.iload 5, 2) := dk_21 5 (dk_at dksX4_decompress_2 14 rfl rfl)
theorem dX4_decompress_62 : decode cX4_decompress 62 = .ok (.istore 10, 2) := dk_54 10 (dk_at dksX4_decompress_2 16 rfl rfl)
theorem dX4_decompress_64 : decode cX4_decompress 64 = .ok (.iload 9, 2) := dk_21 9 (dk_at dksX4_decompress_2 18 rfl rfl)
theorem dX4_decompress_66 : decode cX4_decompress 66 = .ok (.iload 7, 2) := dk_21 7 (dk_at dksX4_decompress_2 20 rfl rfl)
theorem dX4_decompress_68 : decode cX4_decompress 68 = .ok (.if_icmp .lt 13, 3) := dk_161 0 13 (dk_at dksX4_decompress_3 0 rfl rfl)
theorem dX4_decompress_71 : decode cX4_decompress 71 = .ok (.new 17, 3) := dk_187 0 17 (dk_at dksX4_decompress_3 3 rfl rfl)
theorem dX4_decompress_74 : decode cX4_decompress 74 = .ok (.dup, 1) := dk_89 (dk_at dksX4_decompress_3 6 rfl rfl)
theorem dX4_decompress_75 : decode cX4_decompress 75 = .ok (.ldc 24, 2) := dk_18 24 (dk_at dksX4_decompress_3 7 rfl rfl)
theorem dX4_decompress_77 : decode cX4_decompress 77 = .ok (.invokespecial 21, 3) := dk_183 0 21 (dk_at dksX4_decompress_3 9 rfl rfl)
theorem dX4_decompress_80 : decode cX4_decompress 80 = .ok (.athrow, 1) := dk_191 (dk_at dksX4_decompress_3 12 rfl rfl)
theorem dX4_decompress_81 : decode cX4_decompress 81 = .ok (.aload_n 1, 1) := dk_43 (dk_at dksX4_decompress_3 13 rfl rfl)
theorem dX4_decompress_82 : decode cX4_decompress 82 = .ok (.iload 9, 2) := dk_21 9 (dk_at dksX4_decompress_3 14 rfl rfl)
theorem dX4_decompress_84 : decode cX4_decompress 84 = .ok (.invokestatic 13, 3) := dk_184 0 13 (dk_at dksX4_decompress_3 16 rfl rfl)
theorem dX4_decompress_87 : decode cX4_decompress 87 = .ok (.sipush 255, 3) := dk_17 0 255 (dk_at dksX4_decompress_3 19 rfl rfl)
theorem dX4_decompress_90 : decode cX4_decompress 90 = .ok (.iand, 1) := dk_126 (dk_at dksX4_decompress_3 22 rfl rfl)
theorem dX4_decompress_91 : decode cX4_decompress 91 = .ok (.istore 11, 2) := dk_54 11 (dk_at dksX4_decompress_4 0 rfl rfl)
theorem dX4_decompress_93 : decode cX4_decompress 93 = .ok (.iinc 9 1, 3) := dk_132 9 1 (dk_at dksX4_decompress_4 2 rfl rfl)
theorem dX4_decompress_96 : decode cX4_decompress 96 = .ok (.iload 11, 2) := dk_21 11 (dk_at dksX4_decompress_4 5 rfl rfl)
theorem dX4_decompress_98 : decode cX4_decompress 98 = .ok (.iconst 4, 1) := dk_7 (dk_at dksX4_decompress_4 7 rfl rfl)
theorem dX4_decompress_99 : decode cX4_decompress 99 = .ok (.iushr, 1) := dk_124 (dk_at dksX4_decompress_4 8 rfl rfl)
theorem dX4_decompress_100 : decode cX4_decompress 100 = .ok (.istore 12, 2) := dk_54 12 (dk_at dksX4_decompress_4 9 rfl rfl)
theorem dX4_decompress_102 : decode cX4_decompress 102 = .ok (.iload 12, 2) := dk_21 12 (dk_at dksX4_decompress_4 11 rfl rfl)
theorem dX4_decompress_104 : decode cX4_decompress 104 = .ok (.bipush 15, 2) := dk_16 15 (dk_at dksX4_decompress_4 13 rfl rfl)
theorem dX4_decompress_106 : decode cX4_decompress 106 = .ok (.if_icmp .ne 61, 3) := dk_160 0 61 (dk_at dksX4_decompress_4 15 rfl rfl)
theorem dX4_decompress_109 : decode cX4_decompress 109 = .ok (.iconst (-1), 1) := dk_2 (dk_at dksX4_decompress_4 18 rfl rfl)
theorem dX4_decompress_110 : decode cX4_decompress 110 = .ok (.istore 13, 2) := dk_54 13 (dk_at dksX4_decompress_4 19 rfl rfl)
theorem dX4_decompress_112 : decode cX4_decompress 112 = .ok (.iload 9, 2) := dk_21 9 (dk_at dksX4_decompress_4 21 rfl rfl)
theorem dX4_decompress_114 : decode cX4_decompress 114 = .ok (.iload 7, 2) := dk_21 7 (dk_at dksX4_decompress_5 0 rfl rfl)
theorem dX4_decompress_116 : decode cX4_decompress 116 = .ok (.if_icmp .ge 40, 3) := dk_162 0 40 (dk_at dksX4_decompress_5 2 rfl rfl)
theorem dX4_decompress_119 : decode cX4_decompress 119 = .ok (.aload_n 1, 1) := dk_43 (dk_at dksX4_decompress_5 5 rfl rfl)
theorem dX4_decompress_120 : decode cX4_decompress 120 = .ok (.iload 9, 2) := dk_21 9 (dk_at dksX4_decompress_5 6 rfl rfl)
theorem dX4_decompress_122 : decode cX4_decompress 122 = .ok (.iinc 9 1, 3) := dk_132 9 1 (dk_at dksX4_decompress_5 8 rfl rfl)
theorem dX4_decompress_125 : decode cX4_decompress 125 = .ok (.invokestatic 13, 3) := dk_184 0 13 (dk_at dksX4_decompress_5 11 rfl rfl)
theorem dX4_decompress_128 : decode cX4_decompress 128 = .ok (.dup, 1) := dk_89 (dk_at dksX4_decompress_5 14 rfl rfl)
theorem dX4_decompress_129 : decode cX4_decompress 129 = .ok (.istore 13, 2) := dk_54 13 (dk_at dksX4_decompress_5 15 rfl rfl)
theorem dX4_decompress_131 : decode cX4_decompress 131 = .ok (.iconst (-1), 1) := dk_2 (dk_at dksX4_decompress_5 17 rfl rfl)
theorem dX4_decompress_132 : decode cX4_decompress 132 = .ok (.if_icmp .ne 24, 3) := dk_160 0 24 (dk_at dksX4_decompress_5 18 rfl rfl)
theorem dX4_decompress_135 : decode cX4_decompress 135 = .ok (.iinc 12 255, 6) := by decide +kernel
theorem dX4_decompress_141 : decode cX4_decompress 141 = .ok (.iload 12, 2) := dk_21 12 (dk_at dksX4_decompress_6 6 rfl rfl)
theorem dX4_decompress_143 : decode cX4_decompress 143 = .ok (.ifCond .ge (-31), 3) := dk_156 255 225 (dk_at dksX4_decompress_6 8 rfl rfl)
theorem dX4_decompress_146 : decode cX4_decompress 146 = .ok (.new 17, 3) := dk_187 0 17 (dk_at dksX4_decompress_6 11 rfl rfl)
theorem dX4_decompress_149 : decode cX4_decompress 149 = .ok (.dup, 1) := dk_89 (dk_at dksX4_decompress_6 14 rfl rfl)
theorem dX4_decompress_150 : decode cX4_decompress 150 = .ok (.ldc 28, 2) := dk_18 28 (dk_at dksX4_decompress_6 15 rfl rfl)
theorem dX4_decompress_152 : decode cX4_decompress 152 = .ok (.invokespecial 21, 3) := dk_183 0 21 (dk_at dksX4_decompress_6 17 rfl rfl)
theorem dX4_decompress_155 : decode cX4_decompress 155 = .ok (.athrow, 1) := dk_191 (dk_at dksX4_decompress_6 20 rfl rfl)
theorem dX4_decompress_156 : decode cX4_decompress 156 = .ok (.iload 12, 2) := dk_21 12 (dk_at dksX4_decompress_6 21 rfl rfl)
theorem dX4_decompress_158 : decode cX4_decompress 158 = .ok (.iload 13, 2) := dk_21 13 (dk_at dksX4_decompress_7 0 rfl rfl)
theorem dX4_decompress_160 : decode cX4_decompress 160 = .ok (.sipush 255, 3) := dk_17 0 255 (dk_at dksX4_decompress_7 2 rfl rfl)
theorem dX4_decompress_163 : decode cX4_decompress 163 = .ok (.iand, 1) := dk_126 (dk_at dksX4_decompress_7 5 rfl rfl)
theorem dX4_decompress_164 : decode cX4_decompress 164 = .ok (.iadd, 1) := dk_96 (dk_at dksX4_decompress_7 6 rfl rfl)
theorem dX4_decompress_165 : decode cX4_decompress 165 = .ok (.istore 12, 2) := dk_54 12 (dk_at dksX4_decompress_7 7 rfl rfl)
theorem dX4_decompress_167 : decode cX4_decompress 167 = .ok (.iload 10, 2) := dk_21 10 (dk_at dksX4_decompress_7 9 rfl rfl)
theorem dX4_decompress_169 : decode cX4_decompress 169 = .ok (.iload 12, 2) := dk_21 12 (dk_at dksX4_decompress_7 11 rfl rfl)
theorem dX4_decompress_171 : decode cX4_decompress 171 = .ok (.iadd, 1) := dk_96 (dk_at dksX4_decompress_7 13 rfl rfl)
theorem dX4_decompress_172 : decode cX4_decompress 172 = .ok (.istore 13, 2) := dk_54 13 (dk_at dksX4_decompress_7 14 rfl rfl)
theorem dX4_decompress_174 : decode cX4_decompress 174 = .ok (.iload 13, 2) := dk_21 13 (dk_at dksX4_decompress_7 16 rfl rfl)
theorem dX4_decompress_176 : decode cX4_decompress 176 = .ok (.iload 10, 2) := dk_21 10 (dk_at dksX4_decompress_7 18 rfl rfl)
theorem dX4_decompress_178 : decode cX4_decompress 178 = .ok (.if_icmp .ge 13, 3) := dk_162 0 13 (dk_at dksX4_decompress_7 20 rfl rfl)
theorem dX4_decompress_181 : decode cX4_decompress 181 = .ok (.new 17, 3) := dk_187 0 17 (dk_at dksX4_decompress_8 0 rfl rfl)
theorem dX4_decompress_184 : decode cX4_decompress 184 = .ok (.dup, 1) := dk_89 (dk_at dksX4_decompress_8 3 rfl rfl)
theorem dX4_decompress_185 : decode cX4_decompress 185 = .ok (.ldc 28, 2) := dk_18 28 (dk_at dksX4_decompress_8 4 rfl rfl)
theorem dX4_decompress_187 : decode cX4_decompress 187 = .ok (.invokespecial 21, 3) := dk_183 0 21 (dk_at dksX4_decompress_8 6 rfl rfl)
theorem dX4_decompress_190 : decode cX4_decompress 190 = .ok (.athrow, 1) := dk_191 (dk_at dksX4_decompress_8 9 rfl rfl)
theorem dX4_decompress_191 : decode cX4_decompress 191 = .ok (.iload 8, 2) := dk_21 8 (dk_at dksX4_decompress_8 10 rfl rfl)
theorem dX4_decompress_193 : decode cX4_decompress 193 = .ok (.iload 13, 2) := dk_21 13 (dk_at dksX4_decompress_8 12 rfl rfl)
theorem dX4_decompress_195 : decode cX4_decompress 195 = .ok (.isub, 1) := dk_100 (dk_at dksX4_decompress_8 14 rfl rfl)
theorem dX4_decompress_196 : decode cX4_decompress 196 = .ok (.bipush 8, 2) := dk_16 8 (dk_at dksX4_decompress_8 15 rfl rfl)
theorem dX4_decompress_198 : decode cX4_decompress 198 = .ok (.invokestatic 30, 3) := dk_184 0 30 (dk_at dksX4_decompress_8 17 rfl rfl)
theorem dX4_decompress_201 : decode cX4_decompress 201 = .ok (.ifCond .ne 19, 3) := dk_154 0 19 (dk_at dksX4_decompress_8 20 rfl rfl)
theorem dX4_decompress_204 : decode cX4_decompress 204 = .ok (.iload 7, 2) := dk_21 7 (dk_at dksX4_decompress_9 0 rfl rfl)
theorem dX4_decompress_206 : decode cX4_decompress 206 = .ok (.iload 9, 2) := dk_21 9 (dk_at dksX4_decompress_9 2 rfl rfl)
theorem dX4_decompress_208 : decode cX4_decompress 208 = .ok (.isub, 1) := dk_100 (dk_at dksX4_decompress_9 4 rfl rfl)
theorem dX4_decompress_209 : decode cX4_decompress 209 = .ok (.bipush 8, 2) := dk_16 8 (dk_at dksX4_decompress_9 5 rfl rfl)
theorem dX4_decompress_211 : decode cX4_decompress 211 = .ok (.iload 12, 2) := dk_21 12 (dk_at dksX4_decompress_9 7 rfl rfl)
theorem dX4_decompress_213 : decode cX4_decompress 213 = .ok (.iadd, 1) := dk_96 (dk_at dksX4_decompress_9 9 rfl rfl)
theorem dX4_decompress_214 : decode cX4_decompress 214 = .ok (.invokestatic 30, 3) := dk_184 0 30 (dk_at dksX4_decompress_9 10 rfl rfl)
theorem dX4_decompress_217 : decode cX4_decompress 217 = .ok (.ifCond .eq 64, 3) := dk_153 0 64 (dk_at dksX4_decompress_9 13 rfl rfl)
theorem dX4_decompress_220 : decode cX4_decompress 220 = .ok (.iload 13, 2) := dk_21 13 (dk_at dksX4_decompress_9 16 rfl rfl)
theorem dX4_decompress_222 : decode cX4_decompress 222 = .ok (.iload 8, 2) := dk_21 8 (dk_at dksX4_decompress_9 18 rfl rfl)
theorem dX4_decompress_224 : decode cX4_decompress 224 = .ok (.if_icmp .le 11, 3) := dk_164 0 11 (dk_at dksX4_decompress_9 20 rfl rfl)
theorem dX4_decompress_227 : decode cX4_decompress 227 = .ok (.new 17, 3) := dk_187 0 17 (dk_at dksX4_decompress_10 0 rfl rfl)
theorem dX4_decompress_230 : decode cX4_decompress 230 = .ok (.dup, 1) := dk_89 (dk_at dksX4_decompress_10 3 rfl rfl)
theorem dX4_decompress_231 : decode cX4_decompress 231 = .ok (.invokespecial 36, 3) := dk_183 0 36 (dk_at dksX4_decompress_10 4 rfl rfl)
theorem dX4_decompress_234 : decode cX4_decompress 234 = .ok (.athrow, 1) := dk_191 (dk_at dksX4_decompress_10 7 rfl rfl)
theorem dX4_decompress_235 : decode cX4_decompress 235 = .ok (.iload 9, 2) := dk_21 9 (dk_at dksX4_decompress_10 8 rfl rfl)
theorem dX4_decompress_237 : decode cX4_decompress 237 = .ok (.iload 12, 2) := dk_21 12 (dk_at dksX4_decompress_10 10 rfl rfl)
theorem dX4_decompress_239 : decode cX4_decompress 239 = .ok (.iadd, 1) := dk_96 (dk_at dksX4_decompress_10 12 rfl rfl)
theorem dX4_decompress_240 : decode cX4_decompress 240 = .ok (.iload 7, 2) := dk_21 7 (dk_at dksX4_decompress_10 13 rfl rfl)
theorem dX4_decompress_242 : decode cX4_decompress 242 = .ok (.if_icmp .eq 13, 3) := dk_159 0 13 (dk_at dksX4_decompress_10 15 rfl rfl)
theorem dX4_decompress_245 : decode cX4_decompress 245 = .ok (.new 17, 3) := dk_187 0 17 (dk_at dksX4_decompress_10 18 rfl rfl)
theorem dX4_decompress_248 : decode cX4_decompress 248 = .ok (.dup, 1) := dk_89 (dk_at dksX4_decompress_10 21 rfl rfl)
theorem dX4_decompress_249 : decode cX4_decompress 249 = .ok (.ldc 24, 2) := dk_18 24 (dk_at dksX4_decompress_10 22 rfl rfl)
theorem dX4_decompress_251 : decode cX4_decompress 251 = .ok (.invokespecial 21, 3) := dk_183 0 21 (dk_at dksX4_decompress_11 0 rfl rfl)
theorem dX4_decompress_254 : decode cX4_decompress 254 = .ok (.athrow, 1) := dk_191 (dk_at dksX4_decompress_11 3 rfl rfl)
theorem dX4_decompress_255 : decode cX4_decompress 255 = .ok (.aload_n 1, 1) := dk_43 (dk_at dksX4_decompress_11 4 rfl rfl)
theorem dX4_decompress_256 : decode cX4_decompress 256 = .ok (.iload 9, 2) := dk_21 9 (dk_at dksX4_decompress_11 5 rfl rfl)
theorem dX4_decompress_258 : decode cX4_decompress 258 = .ok (.aload 4, 2) := dk_25 4 (dk_at dksX4_decompress_11 7 rfl rfl)
theorem dX4_decompress_260 : decode cX4_decompress 260 = .ok (.iload 10, 2) := dk_21 10 (dk_at dksX4_decompress_11 9 rfl rfl)
theorem dX4_decompress_262 : decode cX4_decompress 262 = .ok (.iload 12, 2) := dk_21 12 (dk_at dksX4_decompress_11 11 rfl rfl)
theorem dX4_decompress_264 : decode cX4_decompress 264 = .ok (.invokestatic 37, 3) := dk_184 0 37 (dk_at dksX4_decompress_11 13 rfl rfl)
theorem dX4_decompress_267 : decode cX4_decompress 267 = .ok (.iload 9, 2) := dk_21 9 (dk_at dksX4_decompress_11 16 rfl rfl)
theorem dX4_decompress_269 : decode cX4_decompress 269 = .ok (.iload 12, 2) := dk_21 12 (dk_at dksX4_decompress_11 18 rfl rfl)
theorem dX4_decompress_271 : decode cX4_decompress 271 = .ok (.iadd, 1) := dk_96 (dk_at dksX4_decompress_11 20 rfl rfl)
theorem dX4_decompress_272 : decode cX4_decompress 272 = .ok (.istore 9, 2) := dk_54 9 (dk_at dksX4_decompress_11 21 rfl rfl)
theorem dX4_decompress_274 : decode cX4_decompress 274 = .ok (.iload 13, 2) := dk_21 13 (dk_at dksX4_decompress_12 0 rfl rfl)
theorem dX4_decompress_276 : decode cX4_decompress 276 = .ok (.istore 10, 2) := dk_54 10 (dk_at dksX4_decompress_12 2 rfl rfl)
theorem dX4_decompress_278 : decode cX4_decompress 278 = .ok (.goto 256, 3) := dk_167 1 0 (dk_at dksX4_decompress_12 4 rfl rfl)
theorem dX4_decompress_281 : decode cX4_decompress 281 = .ok (.aload_n 1, 1) := dk_43 (dk_at dksX4_decompress_12 7 rfl rfl)
theorem dX4_decompress_282 : decode cX4_decompress 282 = .ok (.iload 9, 2) := dk_21 9 (dk_at dksX4_decompress_12 8 rfl rfl)
theorem dX4_decompress_284 : decode cX4_decompress 284 = .ok (.aload 4, 2) := dk_25 4 (dk_at dksX4_decompress_12 10 rfl rfl)
theorem dX4_decompress_286 : decode cX4_decompress 286 = .ok (.iload 10, 2) := dk_21 10 (dk_at dksX4_decompress_12 12 rfl rfl)
theorem dX4_decompress_288 : decode cX4_decompress 288 = .ok (.iload 12, 2) := dk_21 12 (dk_at dksX4_decompress_12 14 rfl rfl)
theorem dX4_decompress_290 : decode cX4_decompress 290 = .ok (.invokestatic 43, 3) := dk_184 0 43 (dk_at dksX4_decompress_12 16 rfl rfl)
theorem dX4_decompress_293 : decode cX4_decompress 293 = .ok (.iload 9, 2) := dk_21 9 (dk_at dksX4_decompress_12 19 rfl rfl)
theorem dX4_decompress_295 : decode cX4_decompress 295 = .ok (.iload 12, 2) := dk_21 12 (dk_at dksX4_decompress_12 21 rfl rfl)
theorem dX4_decompress_297 : decode cX4_decompress 297 = .ok (.iadd, 1) := dk_96 (dk_at dksX4_decompress_12 23 rfl rfl)
theorem dX4_decompress_298 : decode cX4_decompress 298 = .ok (.istore 9, 2) := dk_54 9 (dk_at dksX4_decompress_13 0 rfl rfl)
theorem dX4_decompress_300 : decode cX4_decompress 300 = .ok (.iload 13, 2) := dk_21 13 (dk_at dksX4_decompress_13 2 rfl rfl)
theorem dX4_decompress_302 : decode cX4_decompress 302 = .ok (.istore 10, 2) := dk_54 10 (dk_at dksX4_decompress_13 4 rfl rfl)
theorem dX4_decompress_304 : decode cX4_decompress 304 = .ok (.aload_n 1, 1) := dk_43 (dk_at dksX4_decompress_13 6 rfl rfl)
theorem dX4_decompress_305 : decode cX4_decompress 305 = .ok (.iload 9, 2) := dk_21 9 (dk_at dksX4_decompress_13 7 rfl rfl)
theorem dX4_decompress_307 : decode cX4_decompress 307 = .ok (.invokestatic 46, 3) := dk_184 0 46 (dk_at dksX4_decompress_13 9 rfl rfl)
theorem dX4_decompress_310 : decode cX4_decompress 310 = .ok (.istore 14, 2) := dk_54 14 (dk_at dksX4_decompress_13 12 rfl rfl)
theorem dX4_decompress_312 : decode cX4_decompress 312 = .ok (.iinc 9 2, 3) := dk_132 9 2 (dk_at dksX4_decompress_13 14 rfl rfl)
theorem dX4_decompress_315 : decode cX4_decompress 315 = .ok (.iload 10, 2) := dk_21 10 (dk_at dksX4_decompress_13 17 rfl rfl)
theorem dX4_decompress_317 : decode cX4_decompress 317 = .ok (.iload 14, 2) := dk_21 14 (dk_at dksX4_decompress_13 19 rfl rfl)
theorem dX4_decompress_319 : decode cX4_decompress 319 = .ok (.isub, 1) := dk_100 (dk_at dksX4_decompress_13 21 rfl rfl)
theorem dX4_decompress_320 : decode cX4_decompress 320 = .ok (.istore 15, 2) := dk_54 15 (dk_at dksX4_decompress_13 22 rfl rfl)
theorem dX4_decompress_322 : decode cX4_decompress 322 = .ok (.iload 15, 2) := dk_21 15 (dk_at dksX4_decompress_14 0 rfl rfl)
theorem dX4_decompress_324 : decode cX4_decompress 324 = .ok (.iload 5, 2) := dk_21 5 (dk_at dksX4_decompress_14 2 rfl rfl)
theorem dX4_decompress_326 : decode cX4_decompress 326 = .ok (.if_icmp .ge 13, 3) := dk_162 0 13 (dk_at dksX4_decompress_14 4 rfl rfl)
theorem dX4_decompress_329 : decode cX4_decompress 329 = .ok (.new 17, 3) := dk_187 0 17 (dk_at dksX4_decompress_14 7 rfl rfl)
theorem dX4_decompress_332 : decode cX4_decompress 332 = .ok (.dup, 1) := dk_89 (dk_at dksX4_decompress_14 10 rfl rfl)
theorem dX4_decompress_333 : decode cX4_decompress 333 = .ok (.ldc 24, 2) := dk_18 24 (dk_at dksX4_decompress_14 11 rfl rfl)
theorem dX4_decompress_335 : decode cX4_decompress 335 = .ok (.invokespecial 21, 3) := dk_183 0 21 (dk_at dksX4_decompress_14 13 rfl rfl)
theorem dX4_decompress_338 : decode cX4_decompress 338 = .ok (.athrow, 1) := dk_191 (dk_at dksX4_decompress_14 16 rfl rfl)
theorem dX4_decompress_339 : decode cX4_decompress 339 = .ok (.iload 11, 2) := dk_21 11 (dk_at dksX4_decompress_14 17 rfl rfl)
theorem dX4_decompress_341 : decode cX4_decompress 341 = .ok (.bipush 15, 2) := dk_16 15 (dk_at dksX4_decompress_14 19 rfl rfl)
theorem dX4_decompress_343 : decode cX4_decompress 343 = .ok (.iand, 1) := dk_126 (dk_at dksX4_decompress_14 21 rfl rfl)
theorem dX4_decompress_344 : decode cX4_decompress 344 = .ok (.istore 16, 2) := dk_54 16 (dk_at dksX4_decompress_14 22 rfl rfl)
theorem dX4_decompress_346 : decode cX4_decompress 346 = .ok (.iload 16, 2) := dk_21 16 (dk_at dksX4_decompress_15 0 rfl rfl)
theorem dX4_decompress_348 : decode cX4_decompress 348 = .ok (.bipush 15, 2) := dk_16 15 (dk_at dksX4_decompress_15 2 rfl rfl)
theorem dX4_decompress_350 : decode cX4_decompress 350 = .ok (.if_icmp .ne 61, 3) := dk_160 0 61 (dk_at dksX4_decompress_15 4 rfl rfl)
theorem dX4_decompress_353 : decode cX4_decompress 353 = .ok (.iconst (-1), 1) := dk_2 (dk_at dksX4_decompress_15 7 rfl rfl)
theorem dX4_decompress_354 : decode cX4_decompress 354 = .ok (.istore 17, 2) := dk_54 17 (dk_at dksX4_decompress_15 8 rfl rfl)
theorem dX4_decompress_356 : decode cX4_decompress 356 = .ok (.iload 9, 2) := dk_21 9 (dk_at dksX4_decompress_15 10 rfl rfl)
theorem dX4_decompress_358 : decode cX4_decompress 358 = .ok (.iload 7, 2) := dk_21 7 (dk_at dksX4_decompress_15 12 rfl rfl)
theorem dX4_decompress_360 : decode cX4_decompress 360 = .ok (.if_icmp .ge 40, 3) := dk_162 0 40 (dk_at dksX4_decompress_15 14 rfl rfl)
theorem dX4_decompress_363 : decode cX4_decompress 363 = .ok (.aload_n 1, 1) := dk_43 (dk_at dksX4_decompress_15 17 rfl rfl)
theorem dX4_decompress_364 : decode cX4_decompress 364 = .ok (.iload 9, 2) := dk_21 9 (dk_at dksX4_decompress_15 18 rfl rfl)
theorem dX4_decompress_366 : decode cX4_decompress 366 = .ok (.iinc 9 1, 3) := dk_132 9 1 (dk_at dksX4_decompress_15 20 rfl rfl)
theorem dX4_decompress_369 : decode cX4_decompress 369 = .ok (.invokestatic 13, 3) := dk_184 0 13 (dk_at dksX4_decompress_16 0 rfl rfl)
theorem dX4_decompress_372 : decode cX4_decompress 372 = .ok (.dup, 1) := dk_89 (dk_at dksX4_decompress_16 3 rfl rfl)
theorem dX4_decompress_373 : decode cX4_decompress 373 = .ok (.istore 17, 2) := dk_54 17 (dk_at dksX4_decompress_16 4 rfl rfl)
theorem dX4_decompress_375 : decode cX4_decompress 375 = .ok (.iconst (-1), 1) := dk_2 (dk_at dksX4_decompress_16 6 rfl rfl)
theorem dX4_decompress_376 : decode cX4_decompress 376 = .ok (.if_icmp .ne 24, 3) := dk_160 0 24 (dk_at dksX4_decompress_16 7 rfl rfl)
theorem dX4_decompress_379 : decode cX4_decompress 379 = .ok (.iinc 16 255, 6) := by decide +kernel
theorem dX4_decompress_385 : decode cX4_decompress 385 = .ok (.iload 16, 2) := dk_21 16 (dk_at dksX4_decompress_16 16 rfl rfl)
theorem dX4_decompress_387 : decode cX4_decompress 387 = .ok (.ifCond .ge (-31), 3) := dk_156 255 225 (dk_at dksX4_decompress_16 18 rfl rfl)
theorem dX4_decompress_390 : decode cX4_decompress 390 = .ok (.new 17, 3) := dk_187 0 17 (dk_at dksX4_decompress_16 21 rfl rfl)
theorem dX4_decompress_393 : decode cX4_decompress 393 = .ok (.dup, 1) := dk_89 (dk_at dksX4_decompress_17 0 rfl rfl)
theorem dX4_decompress_394 : decode cX4_decompress 394 = .ok (.ldc 50, 2) := dk_18 50 (dk_at dksX4_decompress_17 1 rfl rfl)
theorem dX4_decompress_396 : decode cX4_decompress 396 = .ok (.invokespecial 21, 3) := dk_183 0 21 (dk_at dksX4_decompress_17 3 rfl rfl)
theorem dX4_decompress_399 : decode cX4_decompress 399 = .ok (.athrow, 1) := dk_191 (dk_at dksX4_decompress_17 6 rfl rfl)
theorem dX4_decompress_400 : decode cX4_decompress 400 = .ok (.iload 16, 2) := dk_21 16 (dk_at dksX4_decompress_17 7 rfl rfl)
theorem dX4_decompress_402 : decode cX4_decompress 402 = .ok (.iload 17, 2) := dk_21 17 (dk_at dksX4_decompress_17 9 rfl rfl)
theorem dX4_decompress_404 : decode cX4_decompress 404 = .ok (.sipush 255, 3) := dk_17 0 255 (dk_at dksX4_decompress_17 11 rfl rfl)
theorem dX4_decompress_407 : decode cX4_decompress 407 = .ok (.iand, 1) := dk_126 (dk_at dksX4_decompress_17 14 rfl rfl)
theorem dX4_decompress_408 : decode cX4_decompress 408 = .ok (.iadd, 1) := dk_96 (dk_at dksX4_decompress_17 15 rfl rfl)
theorem dX4_decompress_409 : decode cX4_decompress 409 = .ok (.istore 16, 2) := dk_54 16 (dk_at dksX4_decompress_17 16 rfl rfl)
theorem dX4_decompress_411 : decode cX4_decompress 411 = .ok (.iinc 16 4, 3) := dk_132 16 4 (dk_at dksX4_decompress_17 18 rfl rfl)
theorem dX4_decompress_414 : decode cX4_decompress 414 = .ok (.iload 10, 2) := dk_21 10 (dk_at dksX4_decompress_17 21 rfl rfl)
theorem dX4_decompress_416 : decode cX4_decompress 416 = .ok (.iload 16, 2) := dk_21 16 (dk_at dksX4_decompress_18 0 rfl rfl)
theorem dX4_decompress_418 : decode cX4_decompress 418 = .ok (.iadd, 1) := dk_96 (dk_at dksX4_decompress_18 2 rfl rfl)
theorem dX4_decompress_419 : decode cX4_decompress 419 = .ok (.istore 17, 2) := dk_54 17 (dk_at dksX4_decompress_18 3 rfl rfl)
theorem dX4_decompress_421 : decode cX4_decompress 421 = .ok (.iload 17, 2) := dk_21 17 (dk_at dksX4_decompress_18 5 rfl rfl)
theorem dX4_decompress_423 : decode cX4_decompress 423 = .ok (.iload 10, 2) := dk_21 10 (dk_at dksX4_decompress_18 7 rfl rfl)
theorem dX4_decompress_425 : decode cX4_decompress 425 = .ok (.if_icmp .ge 13, 3) := dk_162 0 13 (dk_at dksX4_decompress_18 9 rfl rfl)
theorem dX4_decompress_428 : decode cX4_decompress 428 = .ok (.new 17, 3) := dk_187 0 17 (dk_at dksX4_decompress_18 12 rfl rfl)
theorem dX4_decompress_431 : decode cX4_decompress 431 = .ok (.dup, 1) := dk_89 (dk_at dksX4_decompress_18 15 rfl rfl)
theorem dX4_decompress_432 : decode cX4_decompress 432 = .ok (.ldc 50, 2) := dk_18 50 (dk_at dksX4_decompress_18 16 rfl rfl)
theorem dX4_decompress_434 : decode cX4_decompress 434 = .ok (.invokespecial 21, 3) := dk_183 0 21 (dk_at dksX4_decompress_18 18 rfl rfl)
theorem dX4_decompress_437 : decode cX4_decompress 437 = .ok (.athrow, 1) := dk_191 (dk_at dksX4_decompress_18 21 rfl rfl)
theorem dX4_decompress_438 : decode cX4_decompress 438 = .ok (.iload 14, 2) := dk_21 14 (dk_at dksX4_decompress_18 22 rfl rfl)
theorem dX4_decompress_440 : decode cX4_decompress 440 = .ok (.ifCond .ne 32, 3) := dk_154 0 32 (dk_at dksX4_decompress_19 0 rfl rfl)
theorem dX4_decompress_443 : decode cX4_decompress 443 = .ok (.iload 17, 2) := dk_21 17 (dk_at dksX4_decompress_19 3 rfl rfl)
theorem dX4_decompress_445 : decode cX4_decompress 445 = .ok (.iload 8, 2) := dk_21 8 (dk_at dksX4_decompress_19 5 rfl rfl)
theorem dX4_decompress_447 : decode cX4_decompress 447 = .ok (.if_icmp .le 13, 3) := dk_164 0 13 (dk_at dksX4_decompress_19 7 rfl rfl)
theorem dX4_decompress_450 : decode cX4_decompress 450 = .ok (.new 17, 3) := dk_187 0 17 (dk_at dksX4_decompress_19 10 rfl rfl)
theorem dX4_decompress_453 : decode cX4_decompress 453 = .ok (.dup, 1) := dk_89 (dk_at dksX4_decompress_19 13 rfl rfl)
theorem dX4_decompress_454 : decode cX4_decompress 454 = .ok (.ldc 24, 2) := dk_18 24 (dk_at dksX4_decompress_19 14 rfl rfl)
theorem dX4_decompress_456 : decode cX4_decompress 456 = .ok (.invokespecial 21, 3) := dk_183 0 21 (dk_at dksX4_decompress_19 16 rfl rfl)
theorem dX4_decompress_459 : decode cX4_decompress 459 = .ok (.athrow, 1) := dk_191 (dk_at dksX4_decompress_19 19 rfl rfl)
theorem dX4_decompress_460 : decode cX4_decompress 460 = .ok (.aload 4, 2) := dk_25 4 (dk_at dksX4_decompress_19 20 rfl rfl)
theorem dX4_decompress_462 : decode cX4_decompress 462 = .ok (.iload 10, 2) := dk_21 10 (dk_at dksX4_decompress_19 22 rfl rfl)
theorem dX4_decompress_464 : decode cX4_decompress 464 = .ok (.iload 17, 2) := dk_21 17 (dk_at dksX4_decompress_20 0 rfl rfl)
theorem dX4_decompress_466 : decode cX4_decompress 466 = .ok (.invokestatic 52, 3) := dk_184 0 52 (dk_at dksX4_decompress_20 2 rfl rfl)
theorem dX4_decompress_469 : decode cX4_decompress 469 = .ok (.goto 58, 3) := dk_167 0 58 (dk_at dksX4_decompress_20 5 rfl rfl)
theorem dX4_decompress_472 : decode cX4_decompress 472 = .ok (.iload 8, 2) := dk_21 8 (dk_at dksX4_decompress_20 8 rfl rfl)
theorem dX4_decompress_474 : decode cX4_decompress 474 = .ok (.iload 17, 2) := dk_21 17 (dk_at dksX4_decompress_20 10 rfl rfl)
theorem dX4_decompress_476 : decode cX4_decompress 476 = .ok (.isub, 1) := dk_100 (dk_at dksX4_decompress_20 12 rfl rfl)
theorem dX4_decompress_477 : decode cX4_decompress 477 = .ok (.bipush 8, 2) := dk_16 8 (dk_at dksX4_decompress_20 13 rfl rfl)
theorem dX4_decompress_479 : decode cX4_decompress 479 = .ok (.invokestatic 30, 3) := dk_184 0 30 (dk_at dksX4_decompress_20 15 rfl rfl)
theorem dX4_decompress_482 : decode cX4_decompress 482 = .ok (.ifCond .eq 34, 3) := dk_153 0 34 (dk_at dksX4_decompress_20 18 rfl rfl)
theorem dX4_decompress_485 : decode cX4_decompress 485 = .ok (.iload 17, 2) := dk_21 17 (dk_at dksX4_decompress_20 21 rfl rfl)
theorem dX4_decompress_487 : decode cX4_decompress 487 = .ok (.iload 8, 2) := dk_21 8 (dk_at dksX4_decompress_21 0 rfl rfl)
theorem dX4_decompress_489 : decode cX4_decompress 489 = .ok (.if_icmp .le 13, 3) := dk_164 0 13 (dk_at dksX4_decompress_21 2 rfl rfl)
theorem dX4_decompress_492 : decode cX4_decompress 492 = .ok (.new 17, 3) := dk_187 0 17 (dk_at dksX4_decompress_21 5 rfl rfl)
theorem dX4_decompress_495 : decode cX4_decompress 495 = .ok (.dup, 1) := dk_89 (dk_at dksX4_decompress_21 8 rfl rfl)
theorem dX4_decompress_496 : decode cX4_decompress 496 = .ok (.ldc 24, 2) := dk_18 24 (dk_at dksX4_decompress_21 9 rfl rfl)
theorem dX4_decompress_498 : decode cX4_decompress 498 = .ok (.invokespecial 21, 3) := dk_183 0 21 (dk_at dksX4_decompress_21 11 rfl rfl)
theorem dX4_decompress_501 : decode cX4_decompress 501 = .ok (.athrow, 1) := dk_191 (dk_at dksX4_decompress_21 14 rfl rfl)
theorem dX4_decompress_502 : decode cX4_decompress 502 = .ok (.aload 4, 2) := dk_25 4 (dk_at dksX4_decompress_21 15 rfl rfl)
theorem dX4_decompress_504 : decode cX4_decompress 504 = .ok (.iload 15, 2) := dk_21 15 (dk_at dksX4_decompress_21 17 rfl rfl)
theorem dX4_decompress_506 : decode cX4_decompress 506 = .ok (.iload 10, 2) := dk_21 10 (dk_at dksX4_decompress_21 19 rfl rfl)
theorem dX4_decompress_508 : decode cX4_decompress 508 = .ok (.iload 16, 2) := dk_21 16 (dk_at dksX4_decompress_21 21 rfl rfl)
theorem dX4_decompress_510 : decode cX4_decompress 510 = .ok (.invokestatic 55, 3) := dk_184 0 55 (dk_at dksX4_decompress_22 0 rfl rfl)
theorem dX4_decompress_513 : decode cX4_decompress 513 = .ok (.goto 14, 3) := dk_167 0 14 (dk_at dksX4_decompress_22 3 rfl rfl)
theorem dX4_decompress_516 : decode cX4_decompress 516 = .ok (.aload 4, 2) := dk_25 4 (dk_at dksX4_decompress_22 6 rfl rfl)
theorem dX4_decompress_518 : decode cX4_decompress 518 = .ok (.iload 15, 2) := dk_21 15 (dk_at dksX4_decompress_22 8 rfl rfl)
theorem dX4_decompress_520 : decode cX4_decompress 520 = .ok (.iload 10, 2) := dk_21 10 (dk_at dksX4_decompress_22 10 rfl rfl)
theorem dX4_decompress_522 : decode cX4_decompress 522 = .ok (.iload 17, 2) := dk_21 17 (dk_at dksX4_decompress_22 12 rfl rfl)
theorem dX4_decompress_524 : decode cX4_decompress 524 = .ok (.invokestatic 59, 3) := dk_184 0 59 (dk_at dksX4_decompress_22 14 rfl rfl)
theorem dX4_decompress_527 : decode cX4_decompress 527 = .ok (.iload 17, 2) := dk_21 17 (dk_at dksX4_decompress_22 17 rfl rfl)
theorem dX4_decompress_529 : decode cX4_decompress 529 = .ok (.istore 10, 2) := dk_54 10 (dk_at dksX4_decompress_22 19 rfl rfl)
theorem dX4_decompress_531 : decode cX4_decompress 531 = .ok (.goto (-467), 3) := dk_167 254 45 (dk_at dksX4_decompress_22 21 rfl rfl)
theorem dX4_decompress_534 : decode cX4_decompress 534 = .ok (.iload 10, 2) := dk_21 10 (dk_at dksX4_decompress_23 0 rfl rfl)
theorem dX4_decompress_536 : decode cX4_decompress 536 = .ok (.iload 5, 2) := dk_21 5 (dk_at dksX4_decompress_23 2 rfl rfl)
theorem dX4_decompress_538 : decode cX4_decompress 538 = .ok (.isub, 1) := dk_100 (dk_at dksX4_decompress_23 4 rfl rfl)
theorem dX4_decompress_539 : decode cX4_decompress 539 = .ok (.ireturn, 1) := dk_172 (dk_at dksX4_decompress_23 5 rfl rfl)
theorem q7 : (Jvm.Cond.initialized "LZ4JavaSafeSafeDecompressor") ∈ lw_all := lw_g (lw_at lw_m1 5 rfl) rfl
theorem q52 : (Jvm.Cond.instantiable "LZ4JavaSafeSafeDecompressor" (0 : Nat)) ∈ lw_all := lw_g (lw_at lw_m1 50 rfl) rfl
theorem q54 : (Jvm.Cond.instanceMethod ({ cls := "LZ4JavaSafeSafeDecompressor", name := "<init>", desc := "()V" } : Jvm.MethodName)) ∈ lw_all := lw_g (lw_at lw_m1 52 rfl) rfl
theorem q55 : (Jvm.Cond.code ({ cls := "LZ4JavaSafeSafeDecompressor", name := "<init>", desc := "()V" } : Jvm.MethodName) prog_8_method_1_code (1 : Nat) (Option.none : Option Jvm.ClassFile.FieldType)) ∈ lw_all := lw_g (lw_at lw_m1 53 rfl) rfl
theorem q56 : (Jvm.Cond.methodLink "LZ4JavaSafeSafeDecompressor" (1 : Nat) ({ cls := "LZ4SafeDecompressor", name := "<init>", desc := "()V" } : Jvm.MethodName)) ∈ lw_all := lw_g (lw_at lw_m1 54 rfl) rfl
theorem q60 : (Jvm.Cond.superclass "LZ4JavaSafeSafeDecompressor" "LZ4SafeDecompressor") ∈ lw_all := lw_g (lw_at lw_m1 58 rfl) rfl
theorem q343 : (Jvm.Cond.selects "LZ4JavaSafeSafeDecompressor" ({ cls := "LZ4SafeDecompressor", name := "decompress", desc := "([BII[BII)I" } : Jvm.MethodName) ({ cls := "LZ4JavaSafeSafeDecompressor", name := "decompress", desc := "([BII[BII)I" } : Jvm.MethodName)) ∈ lw_all := lw_g (lw_at lw_m2 101 rfl) rfl
theorem q344 : (Jvm.Cond.instanceMethod ({ cls := "LZ4JavaSafeSafeDecompressor", name := "decompress", desc := "([BII[BII)I" } : Jvm.MethodName)) ∈ lw_all := lw_g (lw_at lw_m2 102 rfl) rfl
theorem q345 : (Jvm.Cond.code ({ cls := "LZ4JavaSafeSafeDecompressor", name := "decompress", desc := "([BII[BII)I" } : Jvm.MethodName) prog_8_method_2_code (18 : Nat) (Option.some Jvm.ClassFile.FieldType.int)) ∈ lw_all := lw_g (lw_at lw_m2 103 rfl) rfl
theorem q346 : (Jvm.Cond.methodLink "LZ4JavaSafeSafeDecompressor" (7 : Nat) ({ cls := "SafeUtils", name := "checkRange", desc := "([BII)V" } : Jvm.MethodName)) ∈ lw_all := lw_g (lw_at lw_m2 104 rfl) rfl
theorem q347 : (Jvm.Cond.methodLink "LZ4JavaSafeSafeDecompressor" (13 : Nat) ({ cls := "SafeUtils", name := "readByte", desc := "([BI)B" } : Jvm.MethodName)) ∈ lw_all := lw_g (lw_at lw_m2 105 rfl) rfl
theorem q348 : (Jvm.Cond.classLink "LZ4JavaSafeSafeDecompressor" (17 : Nat) "LZ4Exception") ∈ lw_all := lw_g (lw_at lw_m2 106 rfl) rfl
theorem q349 : (Jvm.Cond.stringRef "LZ4JavaSafeSafeDecompressor" (19 : Nat) "Output buffer too small") ∈ lw_tbl := lw_at lw_m2 107 rfl
theorem q350 : (Jvm.Cond.methodLink "LZ4JavaSafeSafeDecompressor" (21 : Nat) ({ cls := "LZ4Exception", name := "<init>", desc := "(Ljava/lang/String;)V" } : Jvm.MethodName)) ∈ lw_all := lw_g (lw_at lw_m2 108 rfl) rfl
theorem q351 : (Jvm.Cond.stringRef "LZ4JavaSafeSafeDecompressor" (24 : Nat) "left out") ∈ lw_tbl := lw_at lw_m2 109 rfl
theorem q352 : (Jvm.Cond.stringRef "LZ4JavaSafeSafeDecompressor" (28 : Nat) "Too large literalLen") ∈ lw_tbl := lw_at lw_m2 110 rfl
theorem q353 : (Jvm.Cond.methodLink "LZ4JavaSafeSafeDecompressor" (30 : Nat) ({ cls := "LZ4Utils", name := "notEnoughSpace", desc := "(II)Z" } : Jvm.MethodName)) ∈ lw_all := lw_g (lw_at lw_m2 111 rfl) rfl
theorem q354 : (Jvm.Cond.methodLink "LZ4JavaSafeSafeDecompressor" (36 : Nat) ({ cls := "LZ4Exception", name := "<init>", desc := "()V" } : Jvm.MethodName)) ∈ lw_all := lw_g (lw_at lw_m2 112 rfl) rfl
theorem q355 : (Jvm.Cond.methodLink "LZ4JavaSafeSafeDecompressor" (37 : Nat) ({ cls := "LZ4SafeUtils", name := "safeArraycopy", desc := "([BI[BII)V" } : Jvm.MethodName)) ∈ lw_all := lw_g (lw_at lw_m2 113 rfl) rfl
theorem q358 : (Jvm.Cond.methodLink "LZ4JavaSafeSafeDecompressor" (43 : Nat) ({ cls := "LZ4SafeUtils", name := "wildArraycopy", desc := "([BI[BII)V" } : Jvm.MethodName)) ∈ lw_all := lw_g (lw_at lw_m2 116 rfl) rfl
theorem q359 : (Jvm.Cond.methodLink "LZ4JavaSafeSafeDecompressor" (46 : Nat) ({ cls := "SafeUtils", name := "readShortLE", desc := "([BI)I" } : Jvm.MethodName)) ∈ lw_all := lw_g (lw_at lw_m2 117 rfl) rfl
theorem q362 : (Jvm.Cond.stringRef "LZ4JavaSafeSafeDecompressor" (50 : Nat) "Too large matchLen") ∈ lw_tbl := lw_at lw_m2 120 rfl
theorem q363 : (Jvm.Cond.methodLink "LZ4JavaSafeSafeDecompressor" (52 : Nat) ({ cls := "LZ4Utils", name := "zero", desc := "([BII)V" } : Jvm.MethodName)) ∈ lw_all := lw_g (lw_at lw_m2 121 rfl) rfl
theorem q606 : (Jvm.Cond.methodLink "LZ4JavaSafeSafeDecompressor" (55 : Nat) ({ cls := "LZ4SafeUtils", name := "safeIncrementalCopy", desc := "([BIII)V" } : Jvm.MethodName)) ∈ lw_all := lw_g (lw_at lw_m3 124 rfl) rfl
theorem q609 : (Jvm.Cond.methodLink "LZ4JavaSafeSafeDecompressor" (59 : Nat) ({ cls := "LZ4SafeUtils", name := "wildIncrementalCopy", desc := "([BIII)V" } : Jvm.MethodName)) ∈ lw_all := lw_g (lw_at lw_m3 127 rfl) rfl
end
section
/-! BlockPacker -/
set_option maxRecDepth 100000
def RX0 : String := "BlockPacker"
def TX0 : u_T := fun k => match k with
  | 0 => ("BlockPacker", "packer", "LLZ4Compressor;", true)
  | 1 => ("BlockPacker", "opener", "LLZ4SafeDecompressor;", true)
  | 2 => ("BlockPacker", "text", "[B", true)
  | 3 => ("BlockPacker", "packed", "[B", true)
  | 4 => ("BlockPacker", "opened", "[B", true)
  | 5 => ("BlockPacker", "size", "I", false)
  | 6 => ("BlockPacker", "length", "I", false)
  | _ => ("BlockPacker", "back", "I", false)
def tyX0 : Nat → FieldType := fun k => match k with
  | 0 => .object "LZ4Compressor"
  | 1 => .object "LZ4SafeDecompressor"
  | 2 => .array .byte
  | 3 => .array .byte
  | 4 => .array .byte
  | 5 => .int
  | 6 => .int
  | _ => .int
abbrev wsX00 : List Cond := u_ws RX0 TX0 8
theorem nmX0 : ∀ a, a < 8 → ∀ b, b < 8 → a ≠ b → (TX0 a).2.1 ≠ (TX0 b).2.1 := by decide +kernel
theorem tyX0_ok : ∀ k, k < 8 → parseFieldDescriptor (TX0 k).2.2.1 = some (tyX0 k) := by decide +kernel
abbrev cX0_init : ByteArray := prog_1_method_1_code
def yX0_init : MethodName := ⟨RX0, "<init>", "()V"⟩
def dkwX0_init_2 : List UInt8 := [17, 64, 0, 188, 8, 181, 0, 30, 42, 2, 181, 0, 33, 177]
abbrev dktX0_init_2 : List UInt8 := dkwX0_init_2 ++ []
def dkwX0_init_1 : List UInt8 := [181, 0, 19, 42, 17, 64, 0, 188, 8, 181, 0, 23, 42, 17, 64, 80, 188, 8, 181, 0, 27, 42]
abbrev dktX0_init_1 : List UInt8 := dkwX0_init_1 ++ dktX0_init_2
def dkwX0_init_0 : List UInt8 := [42, 183, 0, 1, 42, 187, 0, 7, 89, 183, 0, 9, 181, 0, 10, 42, 187, 0, 16, 89, 183, 0, 18]
abbrev dktX0_init_0 : List UInt8 := dkwX0_init_0 ++ dktX0_init_1
theorem dksX0_init_0 : cX0_init.data.toList.drop 0 = dktX0_init_0 := by decide +kernel
theorem dksX0_init_1 : cX0_init.data.toList.drop 23 = dktX0_init_1 := dk_seg dksX0_init_0 23 rfl rfl
theorem dksX0_init_2 : cX0_init.data.toList.drop 45 = dktX0_init_2 := dk_seg dksX0_init_1 22 rfl rfl
theorem dX0_init_0 : decode cX0_init 0 = .ok (.aload_n 0, 1) := dk_42 (dk_at dksX0_init_0 0 rfl rfl)
theorem dX0_init_1 : decode cX0_init 1 = .ok (.invokespecial 1, 3) := dk_183 0 1 (dk_at dksX0_init_0 1 rfl rfl)
theorem dX0_init_4 : decode cX0_init 4 = .ok (.aload_n 0, 1) := dk_42 (dk_at dksX0_init_0 4 rfl rfl)
theorem dX0_init_5 : decode cX0_init 5 = .ok (.new 7, 3) := dk_187 0 7 (dk_at dksX0_init_0 5 rfl rfl)
theorem dX0_init_8 : decode cX0_init 8 = .ok (.dup, 1) := dk_89 (dk_at dksX0_init_0 8 rfl rfl)
theorem dX0_init_9 : decode cX0_init 9 = .ok (.invokespecial 9, 3) := dk_183 0 9 (dk_at dksX0_init_0 9 rfl rfl)
theorem dX0_init_12 : decode cX0_init 12 = .ok (.putfield 10, 3) := dk_181 0 10 (dk_at dksX0_init_0 12 rfl rfl)
theorem dX0_init_15 : decode cX0_init 15 = .ok (.aload_n 0, 1) := dk_42 (dk_at dksX0_init_0 15 rfl rfl)
theorem dX0_init_16 : decode cX0_init 16 = .ok (.new 16, 3) := dk_187 0 16 (dk_at dksX0_init_0 16 rfl rfl)
theorem dX0_init_19 : decode cX0_init 19 = .ok (.dup, 1) := dk_89 (dk_at dksX0_init_0 19 rfl rfl)
theorem dX0_init_20 : decode cX0_init 20 = .ok (.invokespecial 18, 3) := dk_183 0 18 (dk_at dksX0_init_0 20 rfl rfl)
theorem dX0_init_23 : decode cX0_init 23 = .ok (.putfield 19, 3) := dk_181 0 19 (dk_at dksX0_init_1 0 rfl rfl)
theorem dX0_init_26 : decode cX0_init 26 = .ok (.aload_n 0, 1) := dk_42 (dk_at dksX0_init_1 3 rfl rfl)
theorem dX0_init_27 : decode cX0_init 27 = .ok (.sipush 16384, 3) := dk_17 64 0 (dk_at dksX0_init_1 4 rfl rfl)
theorem dX0_init_30 : decode cX0_init 30 = .ok (.newarray .byte, 2) := dk_188_8 (dk_at dksX0_init_1 7 rfl rfl)
theorem dX0_init_32 : decode cX0_init 32 = .ok (.putfield 23, 3) := dk_181 0 23 (dk_at dksX0_init_1 9 rfl rfl)
theorem dX0_init_35 : decode cX0_init 35 = .ok (.aload_n 0, 1) := dk_42 (dk_at dksX0_init_1 12 rfl rfl)
theorem dX0_init_36 : decode cX0_init 36 = .ok (.sipush 16464, 3) := dk_17 64 80 (dk_at dksX0_init_1 13 rfl rfl)
theorem dX0_init_39 : decode cX0_init 39 = .ok (.newarray .byte, 2) := dk_188_8 (dk_at dksX0_init_1 16 rfl rfl)
theorem dX0_init_41 : decode cX0_init 41 = .ok (.putfield 27, 3) := dk_181 0 27 (dk_at dksX0_init_1 18 rfl rfl)
theorem dX0_init_44 : decode cX0_init 44 = .ok (.aload_n 0, 1) := dk_42 (dk_at dksX0_init_1 21 rfl rfl)
theorem dX0_init_45 : decode cX0_init 45 = .ok (.sipush 16384, 3) := dk_17 64 0 (dk_at dksX0_init_2 0 rfl rfl)
theorem dX0_init_48 : decode cX0_init 48 = .ok (.newarray .byte, 2) := dk_188_8 (dk_at dksX0_init_2 3 rfl rfl)
theorem dX0_init_50 : decode cX0_init 50 = .ok (.putfield 30, 3) := dk_181 0 30 (dk_at dksX0_init_2 5 rfl rfl)
theorem dX0_init_53 : decode cX0_init 53 = .ok (.aload_n 0, 1) := dk_42 (dk_at dksX0_init_2 8 rfl rfl)
theorem dX0_init_54 : decode cX0_init 54 = .ok (.iconst (-1), 1) := dk_2 (dk_at dksX0_init_2 9 rfl rfl)
theorem dX0_init_55 : decode cX0_init 55 = .ok (.putfield 33, 3) := dk_181 0 33 (dk_at dksX0_init_2 10 rfl rfl)
theorem dX0_init_58 : decode cX0_init 58 = .ok (.return_, 1) := dk_177 (dk_at dksX0_init_2 13 rfl rfl)
abbrev cX0_put : ByteArray := prog_1_method_2_code
def yX0_put : MethodName := ⟨RX0, "put", "(IIII)Z"⟩
def dkwX0_put_3 : List UInt8 := [181, 0, 37, 4, 172]
abbrev dktX0_put_3 : List UInt8 := dkwX0_put_3 ++ []
def dkwX0_put_2 : List UInt8 := [182, 0, 40, 42, 42, 180, 0, 37, 16, 12, 96, 21, 4, 182, 0, 40, 42, 89, 180, 0, 37, 16, 16, 96]
abbrev dktX0_put_2 : List UInt8 := dkwX0_put_2 ++ dktX0_put_3
def dkwX0_put_1 : List UInt8 := [182, 0, 40, 42, 42, 180, 0, 37, 7, 96, 28, 182, 0, 40, 42, 42, 180, 0, 37, 16, 8, 96, 29]
abbrev dktX0_put_1 : List UInt8 := dkwX0_put_1 ++ dktX0_put_2
def dkwX0_put_0 : List UInt8 := [42, 180, 0, 37, 42, 180, 0, 23, 190, 16, 16, 100, 164, 0, 5, 3, 172, 42, 42, 180, 0, 37, 27]
abbrev dktX0_put_0 : List UInt8 := dkwX0_put_0 ++ dktX0_put_1
theorem dksX0_put_0 : cX0_put.data.toList.drop 0 = dktX0_put_0 := by decide +kernel
theorem dksX0_put_1 : cX0_put.data.toList.drop 23 = dktX0_put_1 := dk_seg dksX0_put_0 23 rfl rfl
theorem dksX0_put_2 : cX0_put.data.toList.drop 46 = dktX0_put_2 := dk_seg dksX0_put_1 23 rfl rfl
theorem dksX0_put_3 : cX0_put.data.toList.drop 70 = dktX0_put_3 := dk_seg dksX0_put_2 24 rfl rfl
theorem dX0_put_0 : decode cX0_put 0 = .ok (.aload_n 0, 1) := dk_42 (dk_at dksX0_put_0 0 rfl rfl)
theorem dX0_put_1 : decode cX0_put 1 = .ok (.getfield 37, 3) := dk_180 0 37 (dk_at dksX0_put_0 1 rfl rfl)
theorem dX0_put_4 : decode cX0_put 4 = .ok (.aload_n 0, 1) := dk_42 (dk_at dksX0_put_0 4 rfl rfl)
theorem dX0_put_5 : decode cX0_put 5 = .ok (.getfield 23, 3) := dk_180 0 23 (dk_at dksX0_put_0 5 rfl rfl)
theorem dX0_put_8 : decode cX0_put 8 = .ok (.arraylength, 1) := dk_190 (dk_at dksX0_put_0 8 rfl rfl)
theorem dX0_put_9 : decode cX0_put 9 = .ok (.bipush 16, 2) := dk_16 16 (dk_at dksX0_put_0 9 rfl rfl)
theorem dX0_put_11 : decode cX0_put 11 = .ok (.isub, 1) := dk_100 (dk_at dksX0_put_0 11 rfl rfl)
theorem dX0_put_12 : decode cX0_put 12 = .ok (.if_icmp .le 5, 3) := dk_164 0 5 (dk_at dksX0_put_0 12 rfl rfl)
theorem dX0_put_15 : decode cX0_put 15 = .ok (.iconst 0, 1) := dk_3 (dk_at dksX0_put_0 15 rfl rfl)
theorem dX0_put_16 : decode cX0_put 16 = .ok (.ireturn, 1) := dk_172 (dk_at dksX0_put_0 16 rfl rfl)
theorem dX0_put_17 : decode cX0_put 17 = .ok (.aload_n 0, 1) := dk_42 (dk_at dksX0_put_0 17 rfl rfl)
theorem dX0_put_18 : decode cX0_put 18 = .ok (.aload_n 0, 1) := dk_42 (dk_at dksX0_put_0 18 rfl rfl)
theorem dX0_put_19 : decode cX0_put 19 = .ok (.getfield 37, 3) := dk_180 0 37 (dk_at dksX0_put_0 19 rfl rfl)
theorem dX0_put_22 : decode cX0_put 22 = .ok (.iload_n 1, 1) := dk_27 (dk_at dksX0_put_0 22 rfl rfl)
theorem dX0_put_23 : decode cX0_put 23 = .ok (.invokevirtual 40, 3) := dk_182 0 40 (dk_at dksX0_put_1 0 rfl rfl)
theorem dX0_put_26 : decode cX0_put 26 = .ok (.aload_n 0, 1) := dk_42 (dk_at dksX0_put_1 3 rfl rfl)
theorem dX0_put_27 : decode cX0_put 27 = .ok (.aload_n 0, 1) := dk_42 (dk_at dksX0_put_1 4 rfl rfl)
theorem dX0_put_28 : decode cX0_put 28 = .ok (.getfield 37, 3) := dk_180 0 37 (dk_at dksX0_put_1 5 rfl rfl)
theorem dX0_put_31 : decode cX0_put 31 = .ok (.iconst 4, 1) := dk_7 (dk_at dksX0_put_1 8 rfl rfl)
theorem dX0_put_32 : decode cX0_put 32 = .ok (.iadd, 1) := dk_96 (dk_at dksX0_put_1 9 rfl rfl)
theorem dX0_put_33 : decode cX0_put 33 = .ok (.iload_n 2, 1) := dk_28 (dk_at dksX0_put_1 10 rfl rfl)
theorem dX0_put_34 : decode cX0_put 34 = .ok (.invokevirtual 40, 3) := dk_182 0 40 (dk_at dksX0_put_1 11 rfl rfl)
theorem dX0_put_37 : decode cX0_put 37 = .ok (.aload_n 0, 1) := dk_42 (dk_at dksX0_put_1 14 rfl rfl)
theorem dX0_put_38 : decode cX0_put 38 = .ok (.aload_n 0, 1) := dk_42 (dk_at dksX0_put_1 15 rfl rfl)
theorem dX0_put_39 : decode cX0_put 39 = .ok (.getfield 37, 3) := dk_180 0 37 (dk_at dksX0_put_1 16 rfl rfl)
theorem dX0_put_42 : decode cX0_put 42 = .ok (.bipush 8, 2) := dk_16 8 (dk_at dksX0_put_1 19 rfl rfl)
theorem dX0_put_44 : decode cX0_put 44 = .ok (.iadd, 1) := dk_96 (dk_at dksX0_put_1 21 rfl rfl)
theorem dX0_put_45 : decode cX0_put 45 = .ok (.iload_n 3, 1) := dk_29 (dk_at dksX0_put_1 22 rfl rfl)
theorem dX0_put_46 : decode cX0_put 46 = .ok (.invokevirtual 40, 3) := dk_182 0 40 (dk_at dksX0_put_2 0 rfl rfl)
theorem dX0_put_49 : decode cX0_put 49 = .ok (.aload_n 0, 1) := dk_42 (dk_at dksX0_put_2 3 rfl rfl)
theorem dX0_put_50 : decode cX0_put 50 = .ok (.aload_n 0, 1) := dk_42 (dk_at dksX0_put_2 4 rfl rfl)
theorem dX0_put_51 : decode cX0_put 51 = .ok (.getfield 37, 3) := dk_180 0 37 (dk_at dksX0_put_2 5 rfl rfl)
theorem dX0_put_54 : decode cX0_put 54 = .ok (.bipush 12, 2) := dk_16 12 (dk_at dksX0_put_2 8 rfl rfl)
theorem dX0_put_56 : decode cX0_put 56 = .ok (.iadd, 1) := dk_96 (dk_at dksX0_put_2 10 rfl rfl)
theorem dX0_put_57 : decode cX0_put 57 = .ok (.iload 4, 2) := dk_21 4 (dk_at dksX0_put_2 11 rfl rfl)
theorem dX0_put_59 : decode cX0_put 59 = .ok (.invokevirtual 40, 3) := dk_182 0 40 (dk_at dksX0_put_2 13 rfl rfl)
theorem dX0_put_62 : decode cX0_put 62 = .ok (.aload_n 0, 1) := dk_42 (dk_at dksX0_put_2 16 rfl rfl)
theorem dX0_put_63 : decode cX0_put 63 = .ok (.dup, 1) := dk_89 (dk_at dksX0_put_2 17 rfl rfl)
theorem dX0_put_64 : decode cX0_put 64 = .ok (.getfield 37, 3) := dk_180 0 37 (dk_at dksX0_put_2 18 rfl rfl)
theorem dX0_put_67 : decode cX0_put 67 = .ok (.bipush 16, 2) := dk_16 16 (dk_at dksX0_put_2 21 rfl rfl)
theorem dX0_put_69 : decode cX0_put 69 = .ok (.iadd, 1) := dk_96 (dk_at dksX0_put_2 23 rfl rfl)
theorem dX0_put_70 : decode cX0_put 70 = .ok (.putfield 37, 3) := dk_181 0 37 (dk_at dksX0_put_3 0 rfl rfl)
theorem dX0_put_73 : decode cX0_put 73 = .ok (.iconst 1, 1) := dk_4 (dk_at dksX0_put_3 3 rfl rfl)
theorem dX0_put_74 : decode cX0_put 74 = .ok (.ireturn, 1) := dk_172 (dk_at dksX0_put_3 4 rfl rfl)
abbrev cX0_word : ByteArray := prog_1_method_3_code
def yX0_word : MethodName := ⟨RX0, "word", "(II)V"⟩
def dkwX0_word_1 : List UInt8 := [42, 180, 0, 23, 27, 5, 96, 28, 16, 8, 122, 145, 84, 42, 180, 0, 23, 27, 6, 96, 28, 145, 84, 177]
abbrev dktX0_word_1 : List UInt8 := dkwX0_word_1 ++ []
def dkwX0_word_0 : List UInt8 := [42, 180, 0, 23, 27, 28, 16, 24, 122, 145, 84, 42, 180, 0, 23, 27, 4, 96, 28, 16, 16, 122, 145, 84]
abbrev dktX0_word_0 : List UInt8 := dkwX0_word_0 ++ dktX0_word_1
theorem dksX0_word_0 : cX0_word.data.toList.drop 0 = dktX0_word_0 := by decide +kernel
theorem dksX0_word_1 : cX0_word.data.toList.drop 24 = dktX0_word_1 := dk_seg dksX0_word_0 24 rfl rfl
theorem dX0_word_0 : decode cX0_word 0 = .ok (.aload_n 0, 1) := dk_42 (dk_at dksX0_word_0 0 rfl rfl)
theorem dX0_word_1 : decode cX0_word 1 = .ok (.getfield 23, 3) := dk_180 0 23 (dk_at dksX0_word_0 1 rfl rfl)
theorem dX0_word_4 : decode cX0_word 4 = .ok (.iload_n 1, 1) := dk_27 (dk_at dksX0_word_0 4 rfl rfl)
theorem dX0_word_5 : decode cX0_word 5 = .ok (.iload_n 2, 1) := dk_28 (dk_at dksX0_word_0 5 rfl rfl)
theorem dX0_word_6 : decode cX0_word 6 = .ok (.bipush 24, 2) := dk_16 24 (dk_at dksX0_word_0 6 rfl rfl)
theorem dX0_word_8 : decode cX0_word 8 = .ok (.ishr, 1) := dk_122 (dk_at dksX0_word_0 8 rfl rfl)
theorem dX0_word_9 : decode cX0_word 9 = .ok (.i2b, 1) := dk_145 (dk_at dksX0_word_0 9 rfl rfl)
theorem dX0_word_10 : decode cX0_word 10 = .ok (.bastore, 1) := dk_84 (dk_at dksX0_word_0 10 rfl rfl)
theorem dX0_word_11 : decode cX0_word 11 = .ok (.aload_n 0, 1) := dk_42 (dk_at dksX0_word_0 11 rfl rfl)
theorem dX0_word_12 : decode cX0_word 12 = .ok (.getfield 23, 3) := dk_180 0 23 (dk_at dksX0_word_0 12 rfl rfl)
theorem dX0_word_15 : decode cX0_word 15 = .ok (.iload_n 1, 1) := dk_27 (dk_at dksX0_word_0 15 rfl rfl)
theorem dX0_word_16 : decode cX0_word 16 = .ok (.iconst 1, 1) := dk_4 (dk_at dksX0_word_0 16 rfl rfl)
theorem dX0_word_17 : decode cX0_word 17 = .ok (.iadd, 1) := dk_96 (dk_at dksX0_word_0 17 rfl rfl)
theorem dX0_word_18 : decode cX0_word 18 = .ok (.iload_n 2, 1) := dk_28 (dk_at dksX0_word_0 18 rfl rfl)
theorem dX0_word_19 : decode cX0_word 19 = .ok (.bipush 16, 2) := dk_16 16 (dk_at dksX0_word_0 19 rfl rfl)
theorem dX0_word_21 : decode cX0_word 21 = .ok (.ishr, 1) := dk_122 (dk_at dksX0_word_0 21 rfl rfl)
theorem dX0_word_22 : decode cX0_word 22 = .ok (.i2b, 1) := dk_145 (dk_at dksX0_word_0 22 rfl rfl)
theorem dX0_word_23 : decode cX0_word 23 = .ok (.bastore, 1) := dk_84 (dk_at dksX0_word_0 23 rfl rfl)
theorem dX0_word_24 : decode cX0_word 24 = .ok (.aload_n 0, 1) := dk_42 (dk_at dksX0_word_1 0 rfl rfl)
theorem dX0_word_25 : decode cX0_word 25 = .ok (.getfield 23, 3) := dk_180 0 23 (dk_at dksX0_word_1 1 rfl rfl)
theorem dX0_word_28 : decode cX0_word 28 = .ok (.iload_n 1, 1) := dk_27 (dk_at dksX0_word_1 4 rfl rfl)
theorem dX0_word_29 : decode cX0_word 29 = .ok (.iconst 2, 1) := dk_5 (dk_at dksX0_word_1 5 rfl rfl)
theorem dX0_word_30 : decode cX0_word 30 = .ok (.iadd, 1) := dk_96 (dk_at dksX0_word_1 6 rfl rfl)
theorem dX0_word_31 : decode cX0_word 31 = .ok (.iload_n 2, 1) := dk_28 (dk_at dksX0_word_1 7 rfl rfl)
theorem dX0_word_32 : decode cX0_word 32 = .ok (.bipush 8, 2) := dk_16 8 (dk_at dksX0_word_1 8 rfl rfl)
theorem dX0_word_34 : decode cX0_word 34 = .ok (.ishr, 1) := dk_122 (dk_at dksX0_word_1 10 rfl rfl)
theorem dX0_word_35 : decode cX0_word 35 = .ok (.i2b, 1) := dk_145 (dk_at dksX0_word_1 11 rfl rfl)
theorem dX0_word_36 : decode cX0_word 36 = .ok (.bastore, 1) := dk_84 (dk_at dksX0_word_1 12 rfl rfl)
theorem dX0_word_37 : decode cX0_word 37 = .ok (.aload_n 0, 1) := dk_42 (dk_at dksX0_word_1 13 rfl rfl)
theorem dX0_word_38 : decode cX0_word 38 = .ok (.getfield 23, 3) := dk_180 0 23 (dk_at dksX0_word_1 14 rfl rfl)
theorem dX0_word_41 : decode cX0_word 41 = .ok (.iload_n 1, 1) := dk_27 (dk_at dksX0_word_1 17 rfl rfl)
theorem dX0_word_42 : decode cX0_word 42 = .ok (.iconst 3, 1) := dk_6 (dk_at dksX0_word_1 18 rfl rfl)
theorem dX0_word_43 : decode cX0_word 43 = .ok (.iadd, 1) := dk_96 (dk_at dksX0_word_1 19 rfl rfl)
theorem dX0_word_44 : decode cX0_word 44 = .ok (.iload_n 2, 1) := dk_28 (dk_at dksX0_word_1 20 rfl rfl)
theorem dX0_word_45 : decode cX0_word 45 = .ok (.i2b, 1) := dk_145 (dk_at dksX0_word_1 21 rfl rfl)
theorem dX0_word_46 : decode cX0_word 46 = .ok (.bastore, 1) := dk_84 (dk_at dksX0_word_1 22 rfl rfl)
theorem dX0_word_47 : decode cX0_word 47 = .ok (.return_, 1) := dk_177 (dk_at dksX0_word_1 23 rfl rfl)
abbrev cX0_repeat : ByteArray := prog_1_method_4_code
def yX0_repeat : MethodName := ⟨RX0, "repeat", "(II)I"⟩
def dkwX0_repeat_4 : List UInt8 := [167, 255, 225, 42, 89, 180, 0, 37, 21, 4, 96, 181, 0, 37, 21, 4, 172]
abbrev dktX0_repeat_4 : List UInt8 := dkwX0_repeat_4 ++ []
def dkwX0_repeat_3 : List UInt8 := [180, 0, 23, 42, 180, 0, 37, 21, 5, 96, 42, 180, 0, 23, 29, 21, 5, 96, 51, 84, 132, 5, 1]
abbrev dktX0_repeat_3 : List UInt8 := dkwX0_repeat_3 ++ dktX0_repeat_4
def dkwX0_repeat_2 : List UInt8 := [180, 0, 23, 190, 42, 180, 0, 37, 100, 54, 4, 3, 54, 5, 21, 5, 21, 4, 162, 0, 30, 42]
abbrev dktX0_repeat_2 : List UInt8 := dkwX0_repeat_2 ++ dktX0_repeat_3
def dkwX0_repeat_1 : List UInt8 := [17, 4, 1, 112, 54, 4, 21, 4, 42, 180, 0, 23, 190, 42, 180, 0, 37, 100, 164, 0, 15, 42]
abbrev dktX0_repeat_1 : List UInt8 := dkwX0_repeat_1 ++ dktX0_repeat_2
def dkwX0_repeat_0 : List UInt8 := [42, 180, 0, 37, 154, 0, 5, 2, 172, 27, 18, 44, 126, 42, 180, 0, 37, 112, 62, 28, 18, 44, 126]
abbrev dktX0_repeat_0 : List UInt8 := dkwX0_repeat_0 ++ dktX0_repeat_1
theorem dksX0_repeat_0 : cX0_repeat.data.toList.drop 0 = dktX0_repeat_0 := by decide +kernel
theorem dksX0_repeat_1 : cX0_repeat.data.toList.drop 23 = dktX0_repeat_1 := dk_seg dksX0_repeat_0 23 rfl rfl
theorem dksX0_repeat_2 : cX0_repeat.data.toList.drop 45 = dktX0_repeat_2 := dk_seg dksX0_repeat_1 22 rfl rfl
theorem dksX0_repeat_3 : cX0_repeat.data.toList.drop 67 = dktX0_repeat_3 := dk_seg dksX0_repeat_2 22 rfl rfl
theorem dksX0_repeat_4 : cX0_repeat.data.toList.drop 90 = dktX0_repeat_4 := dk_seg dksX0_repeat_3 23 rfl rfl
theorem dX0_repeat_0 : decode cX0_repeat 0 = .ok (.aload_n 0, 1) := dk_42 (dk_at dksX0_repeat_0 0 rfl rfl)
theorem dX0_repeat_1 : decode cX0_repeat 1 = .ok (.getfield 37, 3) := dk_180 0 37 (dk_at dksX0_repeat_0 1 rfl rfl)
theorem dX0_repeat_4 : decode cX0_repeat 4 = .ok (.ifCond .ne 5, 3) := dk_154 0 5 (dk_at dksX0_repeat_0 4 rfl rfl)
theorem dX0_repeat_7 : decode cX0_repeat 7 = .ok (.iconst (-1), 1) := dk_2 (dk_at dksX0_repeat_0 7 rfl rfl)
theorem dX0_repeat_8 : decode cX0_repeat 8 = .ok (.ireturn, 1) := dk_172 (dk_at dksX0_repeat_0 8 rfl rfl)
theorem dX0_repeat_9 : decode cX0_repeat 9 = .ok (.iload_n 1, 1) := dk_27 (dk_at dksX0_repeat_0 9 rfl rfl)
theorem dX0_repeat_10 : decode cX0_repeat 10 = .ok (.ldc 44, 2) := dk_18 44 (dk_at dksX0_repeat_0 10 rfl rfl)
theorem dX0_repeat_12 : decode cX0_repeat 12 = .ok (.iand, 1) := dk_126 (dk_at dksX0_repeat_0 12 rfl rfl)
theorem dX0_repeat_13 : decode cX0_repeat 13 = .ok (.aload_n 0, 1) := dk_42 (dk_at dksX0_repeat_0 13 rfl rfl)
theorem dX0_repeat_14 : decode cX0_repeat 14 = .ok (.getfield 37, 3) := dk_180 0 37 (dk_at dksX0_repeat_0 14 rfl rfl)
theorem dX0_repeat_17 : decode cX0_repeat 17 = .ok (.irem, 1) := dk_112 (dk_at dksX0_repeat_0 17 rfl rfl)
theorem dX0_repeat_18 : decode cX0_repeat 18 = .ok (.istore_n 3, 1) := dk_62 (dk_at dksX0_repeat_0 18 rfl rfl)
theorem dX0_repeat_19 : decode cX0_repeat 19 = .ok (.iload_n 2, 1) := dk_28 (dk_at dksX0_repeat_0 19 rfl rfl)
theorem dX0_repeat_20 : decode cX0_repeat 20 = .ok (.ldc 44, 2) := dk_18 44 (dk_at dksX0_repeat_0 20 rfl rfl)
theorem dX0_repeat_22 : decode cX0_repeat 22 = .ok (.iand, 1) := dk_126 (dk_at dksX0_repeat_0 22 rfl rfl)
theorem dX0_repeat_23 : decode cX0_repeat 23 = .ok (.sipush 1025, 3) := dk_17 4 1 (dk_at dksX0_repeat_1 0 rfl rfl)
theorem dX0_repeat_26 : decode cX0_repeat 26 = .ok (.irem, 1) := dk_112 (dk_at dksX0_repeat_1 3 rfl rfl)
theorem dX0_repeat_27 : decode cX0_repeat 27 = .ok (.istore 4, 2) := dk_54 4 (dk_at dksX0_repeat_1 4 rfl rfl)
theorem dX0_repeat_29 : decode cX0_repeat 29 = .ok (.iload 4, 2) := dk_21 4 (dk_at dksX0_repeat_1 6 rfl rfl)
theorem dX0_repeat_31 : decode cX0_repeat 31 = .ok (.aload_n 0, 1) := dk_42 (dk_at dksX0_repeat_1 8 rfl rfl)
theorem dX0_repeat_32 : decode cX0_repeat 32 = .ok (.getfield 23, 3) := dk_180 0 23 (dk_at dksX0_repeat_1 9 rfl rfl)
theorem dX0_repeat_35 : decode cX0_repeat 35 = .ok (.arraylength, 1) := dk_190 (dk_at dksX0_repeat_1 12 rfl rfl)
theorem dX0_repeat_36 : decode cX0_repeat 36 = .ok (.aload_n 0, 1) := dk_42 (dk_at dksX0_repeat_1 13 rfl rfl)
theorem dX0_repeat_37 : decode cX0_repeat 37 = .ok (.getfield 37, 3) := dk_180 0 37 (dk_at dksX0_repeat_1 14 rfl rfl)
theorem dX0_repeat_40 : decode cX0_repeat 40 = .ok (.isub, 1) := dk_100 (dk_at dksX0_repeat_1 17 rfl rfl)
theorem dX0_repeat_41 : decode cX0_repeat 41 = .ok (.if_icmp .le 15, 3) := dk_164 0 15 (dk_at dksX0_repeat_1 18 rfl rfl)
theorem dX0_repeat_44 : decode cX0_repeat 44 = .ok (.aload_n 0, 1) := dk_42 (dk_at dksX0_repeat_1 21 rfl rfl)
theorem dX0_repeat_45 : decode cX0_repeat 45 = .ok (.getfield 23, 3) := dk_180 0 23 (dk_at dksX0_repeat_2 0 rfl rfl)
theorem dX0_repeat_48 : decode cX0_repeat 48 = .ok (.arraylength, 1) := dk_190 (dk_at dksX0_repeat_2 3 rfl rfl)
theorem dX0_repeat_49 : decode cX0_repeat 49 = .ok (.aload_n 0, 1) := dk_42 (dk_at dksX0_repeat_2 4 rfl rfl)
theorem dX0_repeat_50 : decode cX0_repeat 50 = .ok (.getfield 37, 3) := dk_180 0 37 (dk_at dksX0_repeat_2 5 rfl rfl)
theorem dX0_repeat_53 : decode cX0_repeat 53 = .ok (.isub, 1) := dk_100 (dk_at dksX0_repeat_2 8 rfl rfl)
theorem dX0_repeat_54 : decode cX0_repeat 54 = .ok (.istore 4, 2) := dk_54 4 (dk_at dksX0_repeat_2 9 rfl rfl)
theorem dX0_repeat_56 : decode cX0_repeat 56 = .ok (.iconst 0, 1) := dk_3 (dk_at dksX0_repeat_2 11 rfl rfl)
theorem dX0_repeat_57 : decode cX0_repeat 57 = .ok (.istore 5, 2) := dk_54 5 (dk_at dksX0_repeat_2 12 rfl rfl)
theorem dX0_repeat_59 : decode cX0_repeat 59 = .ok (.iload 5, 2) := dk_21 5 (dk_at dksX0_repeat_2 14 rfl rfl)
theorem dX0_repeat_61 : decode cX0_repeat 61 = .ok (.iload 4, 2) := dk_21 4 (dk_at dksX0_repeat_2 16 rfl rfl)
theorem dX0_repeat_63 : decode cX0_repeat 63 = .ok (.if_icmp .ge 30, 3) := dk_162 0 30 (dk_at dksX0_repeat_2 18 rfl rfl)
theorem dX0_repeat_66 : decode cX0_repeat 66 = .ok (.aload_n 0, 1) := dk_42 (dk_at dksX0_repeat_2 21 rfl rfl)
theorem dX0_repeat_67 : decode cX0_repeat 67 = .ok (.getfield 23, 3) := dk_180 0 23 (dk_at dksX0_repeat_3 0 rfl rfl)
theorem dX0_repeat_70 : decode cX0_repeat 70 = .ok (.aload_n 0, 1) := dk_42 (dk_at dksX0_repeat_3 3 rfl rfl)
theorem dX0_repeat_71 : decode cX0_repeat 71 = .ok (.getfield 37, 3) := dk_180 0 37 (dk_at dksX0_repeat_3 4 rfl rfl)
theorem dX0_repeat_74 : decode cX0_repeat 74 = .ok (.iload 5, 2) := dk_21 5 (dk_at dksX0_repeat_3 7 rfl rfl)
theorem dX0_repeat_76 : decode cX0_repeat 76 = .ok (.iadd, 1) := dk_96 (dk_at dksX0_repeat_3 9 rfl rfl)
theorem dX0_repeat_77 : decode cX0_repeat 77 = .ok (.aload_n 0, 1) := dk_42 (dk_at dksX0_repeat_3 10 rfl rfl)
theorem dX0_repeat_78 : decode cX0_repeat 78 = .ok (.getfield 23, 3) := dk_180 0 23 (dk_at dksX0_repeat_3 11 rfl rfl)
theorem dX0_repeat_81 : decode cX0_repeat 81 = .ok (.iload_n 3, 1) := dk_29 (dk_at dksX0_repeat_3 14 rfl rfl)
theorem dX0_repeat_82 : decode cX0_repeat 82 = .ok (.iload 5, 2) := dk_21 5 (dk_at dksX0_repeat_3 15 rfl rfl)
theorem dX0_repeat_84 : decode cX0_repeat 84 = .ok (.iadd, 1) := dk_96 (dk_at dksX0_repeat_3 17 rfl rfl)
theorem dX0_repeat_85 : decode cX0_repeat 85 = .ok (.baload, 1) := dk_51 (dk_at dksX0_repeat_3 18 rfl rfl)
theorem dX0_repeat_86 : decode cX0_repeat 86 = .ok (.bastore, 1) := dk_84 (dk_at dksX0_repeat_3 19 rfl rfl)
theorem dX0_repeat_87 : decode cX0_repeat 87 = .ok (.iinc 5 1, 3) := dk_132 5 1 (dk_at dksX0_repeat_3 20 rfl rfl)
theorem dX0_repeat_90 : decode cX0_repeat 90 = .ok (.goto (-31), 3) := dk_167 255 225 (dk_at dksX0_repeat_4 0 rfl rfl)
theorem dX0_repeat_93 : decode cX0_repeat 93 = .ok (.aload_n 0, 1) := dk_42 (dk_at dksX0_repeat_4 3 rfl rfl)
theorem dX0_repeat_94 : decode cX0_repeat 94 = .ok (.dup, 1) := dk_89 (dk_at dksX0_repeat_4 4 rfl rfl)
theorem dX0_repeat_95 : decode cX0_repeat 95 = .ok (.getfield 37, 3) := dk_180 0 37 (dk_at dksX0_repeat_4 5 rfl rfl)
theorem dX0_repeat_98 : decode cX0_repeat 98 = .ok (.iload 4, 2) := dk_21 4 (dk_at dksX0_repeat_4 8 rfl rfl)
theorem dX0_repeat_100 : decode cX0_repeat 100 = .ok (.iadd, 1) := dk_96 (dk_at dksX0_repeat_4 10 rfl rfl)
theorem dX0_repeat_101 : decode cX0_repeat 101 = .ok (.putfield 37, 3) := dk_181 0 37 (dk_at dksX0_repeat_4 11 rfl rfl)
theorem dX0_repeat_104 : decode cX0_repeat 104 = .ok (.iload 4, 2) := dk_21 4 (dk_at dksX0_repeat_4 14 rfl rfl)
theorem dX0_repeat_106 : decode cX0_repeat 106 = .ok (.ireturn, 1) := dk_172 (dk_at dksX0_repeat_4 16 rfl rfl)
abbrev cX0_fill : ByteArray := prog_1_method_5_code
def yX0_fill : MethodName := ⟨RX0, "fill", "(II)I"⟩
def dkwX0_fill_3 : List UInt8 := [181, 0, 37, 29, 172]
abbrev dktX0_fill_3 : List UInt8 := dkwX0_fill_3 ++ []
def dkwX0_fill_2 : List UInt8 := [180, 0, 37, 21, 4, 96, 27, 145, 84, 132, 4, 1, 167, 255, 233, 42, 89, 180, 0, 37, 29, 96]
abbrev dktX0_fill_2 : List UInt8 := dkwX0_fill_2 ++ dktX0_fill_3
def dkwX0_fill_1 : List UInt8 := [180, 0, 23, 190, 42, 180, 0, 37, 100, 62, 3, 54, 4, 21, 4, 29, 162, 0, 23, 42, 180, 0, 23, 42]
abbrev dktX0_fill_1 : List UInt8 := dkwX0_fill_1 ++ dktX0_fill_2
def dkwX0_fill_0 : List UInt8 := [28, 18, 44, 126, 17, 4, 1, 112, 62, 29, 42, 180, 0, 23, 190, 42, 180, 0, 37, 100, 164, 0, 14, 42]
abbrev dktX0_fill_0 : List UInt8 := dkwX0_fill_0 ++ dktX0_fill_1
theorem dksX0_fill_0 : cX0_fill.data.toList.drop 0 = dktX0_fill_0 := by decide +kernel
theorem dksX0_fill_1 : cX0_fill.data.toList.drop 24 = dktX0_fill_1 := dk_seg dksX0_fill_0 24 rfl rfl
theorem dksX0_fill_2 : cX0_fill.data.toList.drop 48 = dktX0_fill_2 := dk_seg dksX0_fill_1 24 rfl rfl
theorem dksX0_fill_3 : cX0_fill.data.toList.drop 70 = dktX0_fill_3 := dk_seg dksX0_fill_2 22 rfl rfl
theorem dX0_fill_0 : decode cX0_fill 0 = .ok (.iload_n 2, 1) := dk_28 (dk_at dksX0_fill_0 0 rfl rfl)
theorem dX0_fill_1 : decode cX0_fill 1 = .ok (.ldc 44, 2) := dk_18 44 (dk_at dksX0_fill_0 1 rfl rfl)
theorem dX0_fill_3 : decode cX0_fill 3 = .ok (.iand, 1) := dk_126 (dk_at dksX0_fill_0 3 rfl rfl)
theorem dX0_fill_4 : decode cX0_fill 4 = .ok (.sipush 1025, 3) := dk_17 4 1 (dk_at dksX0_fill_0 4 rfl rfl)
theorem dX0_fill_7 : decode cX0_fill 7 = .ok (.irem, 1) := dk_112 (dk_at dksX0_fill_0 7 rfl rfl)
theorem dX0_fill_8 : decode cX0_fill 8 = .ok (.istore_n 3, 1) := dk_62 (dk_at dksX0_fill_0 8 rfl rfl)
theorem dX0_fill_9 : decode cX0_fill 9 = .ok (.iload_n 3, 1) := dk_29 (dk_at dksX0_fill_0 9 rfl rfl)
theorem dX0_fill_10 : decode cX0_fill 10 = .ok (.aload_n 0, 1) := dk_42 (dk_at dksX0_fill_0 10 rfl rfl)
theorem dX0_fill_11 : decode cX0_fill 11 = .ok (.getfield 23, 3) := dk_180 0 23 (dk_at dksX0_fill_0 11 rfl rfl)
theorem dX0_fill_14 : decode cX0_fill 14 = .ok (.arraylength, 1) := dk_190 (dk_at dksX0_fill_0 14 rfl rfl)
theorem dX0_fill_15 : decode cX0_fill 15 = .ok (.aload_n 0, 1) := dk_42 (dk_at dksX0_fill_0 15 rfl rfl)
theorem dX0_fill_16 : decode cX0_fill 16 = .ok (.getfield 37, 3) := dk_180 0 37 (dk_at dksX0_fill_0 16 rfl rfl)
theorem dX0_fill_19 : decode cX0_fill 19 = .ok (.isub, 1) := dk_100 (dk_at dksX0_fill_0 19 rfl rfl)
theorem dX0_fill_20 : decode cX0_fill 20 = .ok (.if_icmp .le 14, 3) := dk_164 0 14 (dk_at dksX0_fill_0 20 rfl rfl)
theorem dX0_fill_23 : decode cX0_fill 23 = .ok (.aload_n 0, 1) := dk_42 (dk_at dksX0_fill_0 23 rfl rfl)
theorem dX0_fill_24 : decode cX0_fill 24 = .ok (.getfield 23, 3) := dk_180 0 23 (dk_at dksX0_fill_1 0 rfl rfl)
theorem dX0_fill_27 : decode cX0_fill 27 = .ok (.arraylength, 1) := dk_190 (dk_at dksX0_fill_1 3 rfl rfl)
theorem dX0_fill_28 : decode cX0_fill 28 = .ok (.aload_n 0, 1) := dk_42 (dk_at dksX0_fill_1 4 rfl rfl)
theorem dX0_fill_29 : decode cX0_fill 29 = .ok (.getfield 37, 3) := dk_180 0 37 (dk_at dksX0_fill_1 5 rfl rfl)
theorem dX0_fill_32 : decode cX0_fill 32 = .ok (.isub, 1) := dk_100 (dk_at dksX0_fill_1 8 rfl rfl)
theorem dX0_fill_33 : decode cX0_fill 33 = .ok (.istore_n 3, 1) := dk_62 (dk_at dksX0_fill_1 9 rfl rfl)
theorem dX0_fill_34 : decode cX0_fill 34 = .ok (.iconst 0, 1) := dk_3 (dk_at dksX0_fill_1 10 rfl rfl)
theorem dX0_fill_35 : decode cX0_fill 35 = .ok (.istore 4, 2) := dk_54 4 (dk_at dksX0_fill_1 11 rfl rfl)
theorem dX0_fill_37 : decode cX0_fill 37 = .ok (.iload 4, 2) := dk_21 4 (dk_at dksX0_fill_1 13 rfl rfl)
theorem dX0_fill_39 : decode cX0_fill 39 = .ok (.iload_n 3, 1) := dk_29 (dk_at dksX0_fill_1 15 rfl rfl)
theorem dX0_fill_40 : decode cX0_fill 40 = .ok (.if_icmp .ge 23, 3) := dk_162 0 23 (dk_at dksX0_fill_1 16 rfl rfl)
theorem dX0_fill_43 : decode cX0_fill 43 = .ok (.aload_n 0, 1) := dk_42 (dk_at dksX0_fill_1 19 rfl rfl)
theorem dX0_fill_44 : decode cX0_fill 44 = .ok (.getfield 23, 3) := dk_180 0 23 (dk_at dksX0_fill_1 20 rfl rfl)
theorem dX0_fill_47 : decode cX0_fill 47 = .ok (.aload_n 0, 1) := dk_42 (dk_at dksX0_fill_1 23 rfl rfl)
theorem dX0_fill_48 : decode cX0_fill 48 = .ok (.getfield 37, 3) := dk_180 0 37 (dk_at dksX0_fill_2 0 rfl rfl)
theorem dX0_fill_51 : decode cX0_fill 51 = .ok (.iload 4, 2) := dk_21 4 (dk_at dksX0_fill_2 3 rfl rfl)
theorem dX0_fill_53 : decode cX0_fill 53 = .ok (.iadd, 1) := dk_96 (dk_at dksX0_fill_2 5 rfl rfl)
theorem dX0_fill_54 : decode cX0_fill 54 = .ok (.iload_n 1, 1) := dk_27 (dk_at dksX0_fill_2 6 rfl rfl)
theorem dX0_fill_55 : decode cX0_fill 55 = .ok (.i2b, 1) := dk_145 (dk_at dksX0_fill_2 7 rfl rfl)
theorem dX0_fill_56 : decode cX0_fill 56 = .ok (.bastore, 1) := dk_84 (dk_at dksX0_fill_2 8 rfl rfl)
theorem dX0_fill_57 : decode cX0_fill 57 = .ok (.iinc 4 1, 3) := dk_132 4 1 (dk_at dksX0_fill_2 9 rfl rfl)
theorem dX0_fill_60 : decode cX0_fill 60 = .ok (.goto (-23), 3) := dk_167 255 233 (dk_at dksX0_fill_2 12 rfl rfl)
theorem dX0_fill_63 : decode cX0_fill 63 = .ok (.aload_n 0, 1) := dk_42 (dk_at dksX0_fill_2 15 rfl rfl)
theorem dX0_fill_64 : decode cX0_fill 64 = .ok (.dup, 1) := dk_89 (dk_at dksX0_fill_2 16 rfl rfl)
theorem dX0_fill_65 : decode cX0_fill 65 = .ok (.getfield 37, 3) := dk_180 0 37 (dk_at dksX0_fill_2 17 rfl rfl)
theorem dX0_fill_68 : decode cX0_fill 68 = .ok (.iload_n 3, 1) := dk_29 (dk_at dksX0_fill_2 20 rfl rfl)
theorem dX0_fill_69 : decode cX0_fill 69 = .ok (.iadd, 1) := dk_96 (dk_at dksX0_fill_2 21 rfl rfl)
theorem dX0_fill_70 : decode cX0_fill 70 = .ok (.putfield 37, 3) := dk_181 0 37 (dk_at dksX0_fill_3 0 rfl rfl)
theorem dX0_fill_73 : decode cX0_fill 73 = .ok (.iload_n 3, 1) := dk_29 (dk_at dksX0_fill_3 3 rfl rfl)
theorem dX0_fill_74 : decode cX0_fill 74 = .ok (.ireturn, 1) := dk_172 (dk_at dksX0_fill_3 4 rfl rfl)
abbrev cX0_trim : ByteArray := prog_1_method_6_code
def yX0_trim : MethodName := ⟨RX0, "trim", "(I)V"⟩
def dkwX0_trim_0 : List UInt8 := [42, 27, 18, 44, 126, 42, 180, 0, 37, 4, 96, 112, 181, 0, 37, 177]
abbrev dktX0_trim_0 : List UInt8 := dkwX0_trim_0 ++ []
theorem dksX0_trim_0 : cX0_trim.data.toList.drop 0 = dktX0_trim_0 := by decide +kernel
theorem dX0_trim_0 : decode cX0_trim 0 = .ok (.aload_n 0, 1) := dk_42 (dk_at dksX0_trim_0 0 rfl rfl)
theorem dX0_trim_1 : decode cX0_trim 1 = .ok (.iload_n 1, 1) := dk_27 (dk_at dksX0_trim_0 1 rfl rfl)
theorem dX0_trim_2 : decode cX0_trim 2 = .ok (.ldc 44, 2) := dk_18 44 (dk_at dksX0_trim_0 2 rfl rfl)
theorem dX0_trim_4 : decode cX0_trim 4 = .ok (.iand, 1) := dk_126 (dk_at dksX0_trim_0 4 rfl rfl)
theorem dX0_trim_5 : decode cX0_trim 5 = .ok (.aload_n 0, 1) := dk_42 (dk_at dksX0_trim_0 5 rfl rfl)
theorem dX0_trim_6 : decode cX0_trim 6 = .ok (.getfield 37, 3) := dk_180 0 37 (dk_at dksX0_trim_0 6 rfl rfl)
theorem dX0_trim_9 : decode cX0_trim 9 = .ok (.iconst 1, 1) := dk_4 (dk_at dksX0_trim_0 9 rfl rfl)
theorem dX0_trim_10 : decode cX0_trim 10 = .ok (.iadd, 1) := dk_96 (dk_at dksX0_trim_0 10 rfl rfl)
theorem dX0_trim_11 : decode cX0_trim 11 = .ok (.irem, 1) := dk_112 (dk_at dksX0_trim_0 11 rfl rfl)
theorem dX0_trim_12 : decode cX0_trim 12 = .ok (.putfield 37, 3) := dk_181 0 37 (dk_at dksX0_trim_0 12 rfl rfl)
theorem dX0_trim_15 : decode cX0_trim 15 = .ok (.return_, 1) := dk_177 (dk_at dksX0_trim_0 15 rfl rfl)
abbrev cX0_pack : ByteArray := prog_1_method_7_code
def yX0_pack : MethodName := ⟨RX0, "pack", "()Z"⟩
def dkwX0_pack_2 : List UInt8 := [16, 16, 96, 163, 0, 7, 4, 167, 0, 4, 3, 172]
abbrev dktX0_pack_2 : List UInt8 := dkwX0_pack_2 ++ []
def dkwX0_pack_1 : List UInt8 := [182, 0, 45, 181, 0, 33, 42, 180, 0, 33, 42, 180, 0, 37, 42, 180, 0, 37, 17, 0, 255, 108, 96]
abbrev dktX0_pack_1 : List UInt8 := dkwX0_pack_1 ++ dktX0_pack_2
def dkwX0_pack_0 : List UInt8 := [42, 42, 180, 0, 10, 42, 180, 0, 23, 3, 42, 180, 0, 37, 42, 180, 0, 27, 3, 42, 180, 0, 27, 190]
abbrev dktX0_pack_0 : List UInt8 := dkwX0_pack_0 ++ dktX0_pack_1
theorem dksX0_pack_0 : cX0_pack.data.toList.drop 0 = dktX0_pack_0 := by decide +kernel
theorem dksX0_pack_1 : cX0_pack.data.toList.drop 24 = dktX0_pack_1 := dk_seg dksX0_pack_0 24 rfl rfl
theorem dksX0_pack_2 : cX0_pack.data.toList.drop 47 = dktX0_pack_2 := dk_seg dksX0_pack_1 23 rfl rfl
theorem dX0_pack_0 : decode cX0_pack 0 = .ok (.aload_n 0, 1) := dk_42 (dk_at dksX0_pack_0 0 rfl rfl)
theorem dX0_pack_1 : decode cX0_pack 1 = .ok (.aload_n 0, 1) := dk_42 (dk_at dksX0_pack_0 1 rfl rfl)
theorem dX0_pack_2 : decode cX0_pack 2 = .ok (.getfield 10, 3) := dk_180 0 10 (dk_at dksX0_pack_0 2 rfl rfl)
theorem dX0_pack_5 : decode cX0_pack 5 = .ok (.aload_n 0, 1) := dk_42 (dk_at dksX0_pack_0 5 rfl rfl)
theorem dX0_pack_6 : decode cX0_pack 6 = .ok (.getfield 23, 3) := dk_180 0 23 (dk_at dksX0_pack_0 6 rfl rfl)
theorem dX0_pack_9 : decode cX0_pack 9 = .ok (.iconst 0, 1) := dk_3 (dk_at dksX0_pack_0 9 rfl rfl)
theorem dX0_pack_10 : decode cX0_pack 10 = .ok (.aload_n 0, 1) := dk_42 (dk_at dksX0_pack_0 10 rfl rfl)
theorem dX0_pack_11 : decode cX0_pack 11 = .ok (.getfield 37, 3) := dk_180 0 37 (dk_at dksX0_pack_0 11 rfl rfl)
theorem dX0_pack_14 : decode cX0_pack 14 = .ok (.aload_n 0, 1) := dk_42 (dk_at dksX0_pack_0 14 rfl rfl)
theorem dX0_pack_15 : decode cX0_pack 15 = .ok (.getfield 27, 3) := dk_180 0 27 (dk_at dksX0_pack_0 15 rfl rfl)
theorem dX0_pack_18 : decode cX0_pack 18 = .ok (.iconst 0, 1) := dk_3 (dk_at dksX0_pack_0 18 rfl rfl)
theorem dX0_pack_19 : decode cX0_pack 19 = .ok (.aload_n 0, 1) := dk_42 (dk_at dksX0_pack_0 19 rfl rfl)
theorem dX0_pack_20 : decode cX0_pack 20 = .ok (.getfield 27, 3) := dk_180 0 27 (dk_at dksX0_pack_0 20 rfl rfl)
theorem dX0_pack_23 : decode cX0_pack 23 = .ok (.arraylength, 1) := dk_190 (dk_at dksX0_pack_0 23 rfl rfl)
theorem dX0_pack_24 : decode cX0_pack 24 = .ok (.invokevirtual 45, 3) := dk_182 0 45 (dk_at dksX0_pack_1 0 rfl rfl)
theorem dX0_pack_27 : decode cX0_pack 27 = .ok (.putfield 33, 3) := dk_181 0 33 (dk_at dksX0_pack_1 3 rfl rfl)
theorem dX0_pack_30 : decode cX0_pack 30 = .ok (.aload_n 0, 1) := dk_42 (dk_at dksX0_pack_1 6 rfl rfl)
theorem dX0_pack_31 : decode cX0_pack 31 = .ok (.getfield 33, 3) := dk_180 0 33 (dk_at dksX0_pack_1 7 rfl rfl)
theorem dX0_pack_34 : decode cX0_pack 34 = .ok (.aload_n 0, 1) := dk_42 (dk_at dksX0_pack_1 10 rfl rfl)
theorem dX0_pack_35 : decode cX0_pack 35 = .ok (.getfield 37, 3) := dk_180 0 37 (dk_at dksX0_pack_1 11 rfl rfl)
theorem dX0_pack_38 : decode cX0_pack 38 = .ok (.aload_n 0, 1) := dk_42 (dk_at dksX0_pack_1 14 rfl rfl)
theorem dX0_pack_39 : decode cX0_pack 39 = .ok (.getfield 37, 3) := dk_180 0 37 (dk_at dksX0_pack_1 15 rfl rfl)
theorem dX0_pack_42 : decode cX0_pack 42 = .ok (.sipush 255, 3) := dk_17 0 255 (dk_at dksX0_pack_1 18 rfl rfl)
theorem dX0_pack_45 : decode cX0_pack 45 = .ok (.idiv, 1) := dk_108 (dk_at dksX0_pack_1 21 rfl rfl)
theorem dX0_pack_46 : decode cX0_pack 46 = .ok (.iadd, 1) := dk_96 (dk_at dksX0_pack_1 22 rfl rfl)
theorem dX0_pack_47 : decode cX0_pack 47 = .ok (.bipush 16, 2) := dk_16 16 (dk_at dksX0_pack_2 0 rfl rfl)
theorem dX0_pack_49 : decode cX0_pack 49 = .ok (.iadd, 1) := dk_96 (dk_at dksX0_pack_2 2 rfl rfl)
theorem dX0_pack_50 : decode cX0_pack 50 = .ok (.if_icmp .gt 7, 3) := dk_163 0 7 (dk_at dksX0_pack_2 3 rfl rfl)
theorem dX0_pack_53 : decode cX0_pack 53 = .ok (.iconst 1, 1) := dk_4 (dk_at dksX0_pack_2 6 rfl rfl)
theorem dX0_pack_54 : decode cX0_pack 54 = .ok (.goto 4, 3) := dk_167 0 4 (dk_at dksX0_pack_2 7 rfl rfl)
theorem dX0_pack_57 : decode cX0_pack 57 = .ok (.iconst 0, 1) := dk_3 (dk_at dksX0_pack_2 10 rfl rfl)
theorem dX0_pack_58 : decode cX0_pack 58 = .ok (.ireturn, 1) := dk_172 (dk_at dksX0_pack_2 11 rfl rfl)
abbrev cX0_open : ByteArray := prog_1_method_8_code
def yX0_open : MethodName := ⟨RX0, "open", "()I"⟩
def dkwX0_open_1 : List UInt8 := [180, 0, 30, 3, 42, 180, 0, 30, 190, 182, 0, 51, 181, 0, 56, 42, 180, 0, 56, 172]
abbrev dktX0_open_1 : List UInt8 := dkwX0_open_1 ++ []
def dkwX0_open_0 : List UInt8 := [42, 180, 0, 33, 156, 0, 5, 2, 172, 42, 42, 180, 0, 19, 42, 180, 0, 27, 3, 42, 180, 0, 33, 42]
abbrev dktX0_open_0 : List UInt8 := dkwX0_open_0 ++ dktX0_open_1
theorem dksX0_open_0 : cX0_open.data.toList.drop 0 = dktX0_open_0 := by decide +kernel
theorem dksX0_open_1 : cX0_open.data.toList.drop 24 = dktX0_open_1 := dk_seg dksX0_open_0 24 rfl rfl
theorem dX0_open_0 : decode cX0_open 0 = .ok (.aload_n 0, 1) := dk_42 (dk_at dksX0_open_0 0 rfl rfl)
theorem dX0_open_1 : decode cX0_open 1 = .ok (.getfield 33, 3) := dk_180 0 33 (dk_at dksX0_open_0 1 rfl rfl)
theorem dX0_open_4 : decode cX0_open 4 = .ok (.ifCond .ge 5, 3) := dk_156 0 5 (dk_at dksX0_open_0 4 rfl rfl)
theorem dX0_open_7 : decode cX0_open 7 = .ok (.iconst (-1), 1) := dk_2 (dk_at dksX0_open_0 7 rfl rfl)
theorem dX0_open_8 : decode cX0_open 8 = .ok (.ireturn, 1) := dk_172 (dk_at dksX0_open_0 8 rfl rfl)
theorem dX0_open_9 : decode cX0_open 9 = .ok (.aload_n 0, 1) := dk_42 (dk_at dksX0_open_0 9 rfl rfl)
theorem dX0_open_10 : decode cX0_open 10 = .ok (.aload_n 0, 1) := dk_42 (dk_at dksX0_open_0 10 rfl rfl)
theorem dX0_open_11 : decode cX0_open 11 = .ok (.getfield 19, 3) := dk_180 0 19 (dk_at dksX0_open_0 11 rfl rfl)
theorem dX0_open_14 : decode cX0_open 14 = .ok (.aload_n 0, 1) := dk_42 (dk_at dksX0_open_0 14 rfl rfl)
theorem dX0_open_15 : decode cX0_open 15 = .ok (.getfield 27, 3) := dk_180 0 27 (dk_at dksX0_open_0 15 rfl rfl)
theorem dX0_open_18 : decode cX0_open 18 = .ok (.iconst 0, 1) := dk_3 (dk_at dksX0_open_0 18 rfl rfl)
theorem dX0_open_19 : decode cX0_open 19 = .ok (.aload_n 0, 1) := dk_42 (dk_at dksX0_open_0 19 rfl rfl)
theorem dX0_open_20 : decode cX0_open 20 = .ok (.getfield 33, 3) := dk_180 0 33 (dk_at dksX0_open_0 20 rfl rfl)
theorem dX0_open_23 : decode cX0_open 23 = .ok (.aload_n 0, 1) := dk_42 (dk_at dksX0_open_0 23 rfl rfl)
theorem dX0_open_24 : decode cX0_open 24 = .ok (.getfield 30, 3) := dk_180 0 30 (dk_at dksX0_open_1 0 rfl rfl)
theorem dX0_open_27 : decode cX0_open 27 = .ok (.iconst 0, 1) := dk_3 (dk_at dksX0_open_1 3 rfl rfl)
theorem dX0_open_28 : decode cX0_open 28 = .ok (.aload_n 0, 1) := dk_42 (dk_at dksX0_open_1 4 rfl rfl)
theorem dX0_open_29 : decode cX0_open 29 = .ok (.getfield 30, 3) := dk_180 0 30 (dk_at dksX0_open_1 5 rfl rfl)
theorem dX0_open_32 : decode cX0_open 32 = .ok (.arraylength, 1) := dk_190 (dk_at dksX0_open_1 8 rfl rfl)
theorem dX0_open_33 : decode cX0_open 33 = .ok (.invokevirtual 51, 3) := dk_182 0 51 (dk_at dksX0_open_1 9 rfl rfl)
theorem dX0_open_36 : decode cX0_open 36 = .ok (.putfield 56, 3) := dk_181 0 56 (dk_at dksX0_open_1 12 rfl rfl)
theorem dX0_open_39 : decode cX0_open 39 = .ok (.aload_n 0, 1) := dk_42 (dk_at dksX0_open_1 15 rfl rfl)
theorem dX0_open_40 : decode cX0_open 40 = .ok (.getfield 56, 3) := dk_180 0 56 (dk_at dksX0_open_1 16 rfl rfl)
theorem dX0_open_43 : decode cX0_open 43 = .ok (.ireturn, 1) := dk_172 (dk_at dksX0_open_1 19 rfl rfl)
abbrev cX0_opened : ByteArray := prog_1_method_9_code
def yX0_opened : MethodName := ⟨RX0, "opened", "(I)I"⟩
def dkwX0_opened_1 : List UInt8 := [51, 17, 0, 255, 126, 172]
abbrev dktX0_opened_1 : List UInt8 := dkwX0_opened_1 ++ []
def dkwX0_opened_0 : List UInt8 := [42, 180, 0, 56, 154, 0, 7, 2, 167, 0, 21, 42, 180, 0, 30, 27, 18, 44, 126, 42, 180, 0, 56, 112]
abbrev dktX0_opened_0 : List UInt8 := dkwX0_opened_0 ++ dktX0_opened_1
theorem dksX0_opened_0 : cX0_opened.data.toList.drop 0 = dktX0_opened_0 := by decide +kernel
theorem dksX0_opened_1 : cX0_opened.data.toList.drop 24 = dktX0_opened_1 := dk_seg dksX0_opened_0 24 rfl rfl
theorem dX0_opened_0 : decode cX0_opened 0 = .ok (.aload_n 0, 1) := dk_42 (dk_at dksX0_opened_0 0 rfl rfl)
theorem dX0_opened_1 : decode cX0_opened 1 = .ok (.getfield 56, 3) := dk_180 0 56 (dk_at dksX0_opened_0 1 rfl rfl)
theorem dX0_opened_4 : decode cX0_opened 4 = .ok (.ifCond .ne 7, 3) := dk_154 0 7 (dk_at dksX0_opened_0 4 rfl rfl)
theorem dX0_opened_7 : decode cX0_opened 7 = .ok (.iconst (-1), 1) := dk_2 (dk_at dksX0_opened_0 7 rfl rfl)
theorem dX0_opened_8 : decode cX0_opened 8 = .ok (.goto 21, 3) := dk_167 0 21 (dk_at dksX0_opened_0 8 rfl rfl)
theorem dX0_opened_11 : decode cX0_opened 11 = .ok (.aload_n 0, 1) := dk_42 (dk_at dksX0_opened_0 11 rfl rfl)
theorem dX0_opened_12 : decode cX0_opened 12 = .ok (.getfield 30, 3) := dk_180 0 30 (dk_at dksX0_opened_0 12 rfl rfl)
theorem dX0_opened_15 : decode cX0_opened 15 = .ok (.iload_n 1, 1) := dk_27 (dk_at dksX0_opened_0 15 rfl rfl)
theorem dX0_opened_16 : decode cX0_opened 16 = .ok (.ldc 44, 2) := dk_18 44 (dk_at dksX0_opened_0 16 rfl rfl)
theorem dX0_opened_18 : decode cX0_opened 18 = .ok (.iand, 1) := dk_126 (dk_at dksX0_opened_0 18 rfl rfl)
theorem dX0_opened_19 : decode cX0_opened 19 = .ok (.aload_n 0, 1) := dk_42 (dk_at dksX0_opened_0 19 rfl rfl)
theorem dX0_opened_20 : decode cX0_opened 20 = .ok (.getfield 56, 3) := dk_180 0 56 (dk_at dksX0_opened_0 20 rfl rfl)
theorem dX0_opened_23 : decode cX0_opened 23 = .ok (.irem, 1) := dk_112 (dk_at dksX0_opened_0 23 rfl rfl)
theorem dX0_opened_24 : decode cX0_opened 24 = .ok (.baload, 1) := dk_51 (dk_at dksX0_opened_1 0 rfl rfl)
theorem dX0_opened_25 : decode cX0_opened 25 = .ok (.sipush 255, 3) := dk_17 0 255 (dk_at dksX0_opened_1 1 rfl rfl)
theorem dX0_opened_28 : decode cX0_opened 28 = .ok (.iand, 1) := dk_126 (dk_at dksX0_opened_1 4 rfl rfl)
theorem dX0_opened_29 : decode cX0_opened 29 = .ok (.ireturn, 1) := dk_172 (dk_at dksX0_opened_1 5 rfl rfl)
abbrev cX0_size : ByteArray := prog_1_method_10_code
def yX0_size : MethodName := ⟨RX0, "size", "()I"⟩
theorem dX0_size_0 : decode cX0_size 0 = .ok (.aload_n 0, 1) := by decide +kernel
theorem dX0_size_1 : decode cX0_size 1 = .ok (.getfield 37, 3) := by decide +kernel
theorem dX0_size_4 : decode cX0_size 4 = .ok (.ireturn, 1) := by decide +kernel
theorem q3 : (Jvm.Cond.initialized "BlockPacker") ∈ lw_all := lw_g (lw_at lw_m1 1 rfl) rfl
theorem q34 : (Jvm.Cond.instantiable "BlockPacker" (8 : Nat)) ∈ lw_all := lw_g (lw_at lw_m1 32 rfl) rfl
theorem q36 : (Jvm.Cond.instanceMethod ({ cls := "BlockPacker", name := "<init>", desc := "()V" } : Jvm.MethodName)) ∈ lw_all := lw_g (lw_at lw_m1 34 rfl) rfl
theorem q37 : (Jvm.Cond.code ({ cls := "BlockPacker", name := "<init>", desc := "()V" } : Jvm.MethodName) prog_1_method_1_code (1 : Nat) (Option.none : Option Jvm.ClassFile.FieldType)) ∈ lw_all := lw_g (lw_at lw_m1 35 rfl) rfl
theorem q38 : (Jvm.Cond.methodLink "BlockPacker" (1 : Nat) ({ cls := "java/lang/Object", name := "<init>", desc := "()V" } : Jvm.MethodName)) ∈ lw_all := lw_g (lw_at lw_m1 36 rfl) rfl
theorem q41 : (Jvm.Cond.classLink "BlockPacker" (7 : Nat) "LZ4JavaSafeCompressor") ∈ lw_all := lw_g (lw_at lw_m1 39 rfl) rfl
theorem q43 : (Jvm.Cond.methodLink "BlockPacker" (9 : Nat) ({ cls := "LZ4JavaSafeCompressor", name := "<init>", desc := "()V" } : Jvm.MethodName)) ∈ lw_all := lw_g (lw_at lw_m1 41 rfl) rfl
theorem q51 : (Jvm.Cond.classLink "BlockPacker" (16 : Nat) "LZ4JavaSafeSafeDecompressor") ∈ lw_all := lw_g (lw_at lw_m1 49 rfl) rfl
theorem q53 : (Jvm.Cond.methodLink "BlockPacker" (18 : Nat) ({ cls := "LZ4JavaSafeSafeDecompressor", name := "<init>", desc := "()V" } : Jvm.MethodName)) ∈ lw_all := lw_g (lw_at lw_m1 51 rfl) rfl
theorem q61 : (Jvm.Cond.fieldLink "BlockPacker" (10 : Nat) "BlockPacker" "packer" "LLZ4Compressor;") ∈ lw_all := lw_g (lw_at lw_m1 59 rfl) rfl
theorem q62 : (Jvm.Cond.fieldLink "BlockPacker" (19 : Nat) "BlockPacker" "opener" "LLZ4SafeDecompressor;") ∈ lw_all := lw_g (lw_at lw_m1 60 rfl) rfl
theorem q63 : (Jvm.Cond.fieldLink "BlockPacker" (23 : Nat) "BlockPacker" "text" "[B") ∈ lw_all := lw_g (lw_at lw_m1 61 rfl) rfl
theorem q64 : (Jvm.Cond.fieldLink "BlockPacker" (27 : Nat) "BlockPacker" "packed" "[B") ∈ lw_all := lw_g (lw_at lw_m1 62 rfl) rfl
theorem q65 : (Jvm.Cond.fieldLink "BlockPacker" (30 : Nat) "BlockPacker" "opened" "[B") ∈ lw_all := lw_g (lw_at lw_m1 63 rfl) rfl
theorem q66 : (Jvm.Cond.fieldLink "BlockPacker" (37 : Nat) "BlockPacker" "size" "I") ∈ lw_all := lw_g (lw_at lw_m1 64 rfl) rfl
theorem q67 : (Jvm.Cond.fieldLink "BlockPacker" (33 : Nat) "BlockPacker" "length" "I") ∈ lw_all := lw_g (lw_at lw_m1 65 rfl) rfl
theorem q68 : (Jvm.Cond.fieldLink "BlockPacker" (56 : Nat) "BlockPacker" "back" "I") ∈ lw_all := lw_g (lw_at lw_m1 66 rfl) rfl
theorem q69 : (Jvm.Cond.laysFinal "BlockPacker" "BlockPacker" "packer" "LLZ4Compressor;") ∈ lw_all := lw_g (lw_at lw_m1 67 rfl) rfl
theorem q70 : (Jvm.Cond.soleField "BlockPacker" "packer") ∈ lw_all := lw_g (lw_at lw_m1 68 rfl) rfl
theorem q71 : (Jvm.Cond.laysFinal "BlockPacker" "BlockPacker" "opener" "LLZ4SafeDecompressor;") ∈ lw_all := lw_g (lw_at lw_m1 69 rfl) rfl
theorem q72 : (Jvm.Cond.soleField "BlockPacker" "opener") ∈ lw_all := lw_g (lw_at lw_m1 70 rfl) rfl
theorem q73 : (Jvm.Cond.laysFinal "BlockPacker" "BlockPacker" "text" "[B") ∈ lw_all := lw_g (lw_at lw_m1 71 rfl) rfl
theorem q74 : (Jvm.Cond.soleField "BlockPacker" "text") ∈ lw_all := lw_g (lw_at lw_m1 72 rfl) rfl
theorem q75 : (Jvm.Cond.laysFinal "BlockPacker" "BlockPacker" "packed" "[B") ∈ lw_all := lw_g (lw_at lw_m1 73 rfl) rfl
theorem q76 : (Jvm.Cond.soleField "BlockPacker" "packed") ∈ lw_all := lw_g (lw_at lw_m1 74 rfl) rfl
theorem q77 : (Jvm.Cond.laysFinal "BlockPacker" "BlockPacker" "opened" "[B") ∈ lw_all := lw_g (lw_at lw_m1 75 rfl) rfl
theorem q78 : (Jvm.Cond.soleField "BlockPacker" "opened") ∈ lw_all := lw_g (lw_at lw_m1 76 rfl) rfl
theorem q79 : (Jvm.Cond.lays "BlockPacker" "BlockPacker" "size" "I") ∈ lw_all := lw_g (lw_at lw_m1 77 rfl) rfl
theorem q80 : (Jvm.Cond.soleField "BlockPacker" "size") ∈ lw_all := lw_g (lw_at lw_m1 78 rfl) rfl
theorem q81 : (Jvm.Cond.lays "BlockPacker" "BlockPacker" "length" "I") ∈ lw_all := lw_g (lw_at lw_m1 79 rfl) rfl
theorem q82 : (Jvm.Cond.soleField "BlockPacker" "length") ∈ lw_all := lw_g (lw_at lw_m1 80 rfl) rfl
theorem q83 : (Jvm.Cond.lays "BlockPacker" "BlockPacker" "back" "I") ∈ lw_all := lw_g (lw_at lw_m1 81 rfl) rfl
theorem q84 : (Jvm.Cond.soleField "BlockPacker" "back") ∈ lw_all := lw_g (lw_at lw_m1 82 rfl) rfl
theorem q85 : (Jvm.Cond.superclass "BlockPacker" "java/lang/Object") ∈ lw_all := lw_g (lw_at lw_m1 83 rfl) rfl
theorem q88 : (Jvm.Cond.instanceMethod ({ cls := "BlockPacker", name := "put", desc := "(IIII)Z" } : Jvm.MethodName)) ∈ lw_all := lw_g (lw_at lw_m1 86 rfl) rfl
theorem q89 : (Jvm.Cond.selects "BlockPacker" ({ cls := "BlockPacker", name := "put", desc := "(IIII)Z" } : Jvm.MethodName) ({ cls := "BlockPacker", name := "put", desc := "(IIII)Z" } : Jvm.MethodName)) ∈ lw_all := lw_g (lw_at lw_m1 87 rfl) rfl
theorem q90 : (Jvm.Cond.code ({ cls := "BlockPacker", name := "put", desc := "(IIII)Z" } : Jvm.MethodName) prog_1_method_2_code (5 : Nat) (Option.some Jvm.ClassFile.FieldType.boolean)) ∈ lw_all := lw_g (lw_at lw_m1 88 rfl) rfl
theorem q91 : (Jvm.Cond.methodLink "BlockPacker" (40 : Nat) ({ cls := "BlockPacker", name := "word", desc := "(II)V" } : Jvm.MethodName)) ∈ lw_all := lw_g (lw_at lw_m1 89 rfl) rfl
theorem q92 : (Jvm.Cond.privateMethod ({ cls := "BlockPacker", name := "word", desc := "(II)V" } : Jvm.MethodName)) ∈ lw_tbl := lw_at lw_m1 90 rfl
theorem q93 : (Jvm.Cond.instanceMethod ({ cls := "BlockPacker", name := "word", desc := "(II)V" } : Jvm.MethodName)) ∈ lw_all := lw_g (lw_at lw_m1 91 rfl) rfl
theorem q94 : (Jvm.Cond.code ({ cls := "BlockPacker", name := "word", desc := "(II)V" } : Jvm.MethodName) prog_1_method_3_code (3 : Nat) (Option.none : Option Jvm.ClassFile.FieldType)) ∈ lw_all := lw_g (lw_at lw_m1 92 rfl) rfl
theorem q96 : (Jvm.Cond.instanceMethod ({ cls := "BlockPacker", name := "repeat", desc := "(II)I" } : Jvm.MethodName)) ∈ lw_all := lw_g (lw_at lw_m1 94 rfl) rfl
theorem q97 : (Jvm.Cond.selects "BlockPacker" ({ cls := "BlockPacker", name := "repeat", desc := "(II)I" } : Jvm.MethodName) ({ cls := "BlockPacker", name := "repeat", desc := "(II)I" } : Jvm.MethodName)) ∈ lw_all := lw_g (lw_at lw_m1 95 rfl) rfl
theorem q98 : (Jvm.Cond.code ({ cls := "BlockPacker", name := "repeat", desc := "(II)I" } : Jvm.MethodName) prog_1_method_4_code (6 : Nat) (Option.some Jvm.ClassFile.FieldType.int)) ∈ lw_all := lw_g (lw_at lw_m1 96 rfl) rfl
theorem q99 : (Jvm.Cond.constant "BlockPacker" (44 : Nat) (2147483647 : Int32)) ∈ lw_all := lw_g (lw_at lw_m1 97 rfl) rfl
theorem q101 : (Jvm.Cond.instanceMethod ({ cls := "BlockPacker", name := "fill", desc := "(II)I" } : Jvm.MethodName)) ∈ lw_all := lw_g (lw_at lw_m1 99 rfl) rfl
theorem q102 : (Jvm.Cond.selects "BlockPacker" ({ cls := "BlockPacker", name := "fill", desc := "(II)I" } : Jvm.MethodName) ({ cls := "BlockPacker", name := "fill", desc := "(II)I" } : Jvm.MethodName)) ∈ lw_all := lw_g (lw_at lw_m1 100 rfl) rfl
theorem q103 : (Jvm.Cond.code ({ cls := "BlockPacker", name := "fill", desc := "(II)I" } : Jvm.MethodName) prog_1_method_5_code (5 : Nat) (Option.some Jvm.ClassFile.FieldType.int)) ∈ lw_all := lw_g (lw_at lw_m1 101 rfl) rfl
theorem q105 : (Jvm.Cond.instanceMethod ({ cls := "BlockPacker", name := "trim", desc := "(I)V" } : Jvm.MethodName)) ∈ lw_all := lw_g (lw_at lw_m1 103 rfl) rfl
theorem q106 : (Jvm.Cond.selects "BlockPacker" ({ cls := "BlockPacker", name := "trim", desc := "(I)V" } : Jvm.MethodName) ({ cls := "BlockPacker", name := "trim", desc := "(I)V" } : Jvm.MethodName)) ∈ lw_all := lw_g (lw_at lw_m1 104 rfl) rfl
theorem q107 : (Jvm.Cond.code ({ cls := "BlockPacker", name := "trim", desc := "(I)V" } : Jvm.MethodName) prog_1_method_6_code (2 : Nat) (Option.none : Option Jvm.ClassFile.FieldType)) ∈ lw_all := lw_g (lw_at lw_m1 105 rfl) rfl
theorem q109 : (Jvm.Cond.instanceMethod ({ cls := "BlockPacker", name := "pack", desc := "()Z" } : Jvm.MethodName)) ∈ lw_all := lw_g (lw_at lw_m1 107 rfl) rfl
theorem q110 : (Jvm.Cond.selects "BlockPacker" ({ cls := "BlockPacker", name := "pack", desc := "()Z" } : Jvm.MethodName) ({ cls := "BlockPacker", name := "pack", desc := "()Z" } : Jvm.MethodName)) ∈ lw_all := lw_g (lw_at lw_m1 108 rfl) rfl
theorem q111 : (Jvm.Cond.code ({ cls := "BlockPacker", name := "pack", desc := "()Z" } : Jvm.MethodName) prog_1_method_7_code (1 : Nat) (Option.some Jvm.ClassFile.FieldType.boolean)) ∈ lw_all := lw_g (lw_at lw_m1 109 rfl) rfl
theorem q112 : (Jvm.Cond.methodLink "BlockPacker" (45 : Nat) ({ cls := "LZ4Compressor", name := "compress", desc := "([BII[BII)I" } : Jvm.MethodName)) ∈ lw_all := lw_g (lw_at lw_m1 110 rfl) rfl
theorem q337 : (Jvm.Cond.instanceMethod ({ cls := "BlockPacker", name := "open", desc := "()I" } : Jvm.MethodName)) ∈ lw_all := lw_g (lw_at lw_m2 95 rfl) rfl
theorem q338 : (Jvm.Cond.selects "BlockPacker" ({ cls := "BlockPacker", name := "open", desc := "()I" } : Jvm.MethodName) ({ cls := "BlockPacker", name := "open", desc := "()I" } : Jvm.MethodName)) ∈ lw_all := lw_g (lw_at lw_m2 96 rfl) rfl
theorem q339 : (Jvm.Cond.code ({ cls := "BlockPacker", name := "open", desc := "()I" } : Jvm.MethodName) prog_1_method_8_code (1 : Nat) (Option.some Jvm.ClassFile.FieldType.int)) ∈ lw_all := lw_g (lw_at lw_m2 97 rfl) rfl
theorem q340 : (Jvm.Cond.methodLink "BlockPacker" (51 : Nat) ({ cls := "LZ4SafeDecompressor", name := "decompress", desc := "([BII[BII)I" } : Jvm.MethodName)) ∈ lw_all := lw_g (lw_at lw_m2 98 rfl) rfl
theorem q613 : (Jvm.Cond.instanceMethod ({ cls := "BlockPacker", name := "opened", desc := "(I)I" } : Jvm.MethodName)) ∈ lw_all := lw_g (lw_at lw_m3 131 rfl) rfl
theorem q614 : (Jvm.Cond.selects "BlockPacker" ({ cls := "BlockPacker", name := "opened", desc := "(I)I" } : Jvm.MethodName) ({ cls := "BlockPacker", name := "opened", desc := "(I)I" } : Jvm.MethodName)) ∈ lw_all := lw_g (lw_at lw_m3 132 rfl) rfl
theorem q615 : (Jvm.Cond.code ({ cls := "BlockPacker", name := "opened", desc := "(I)I" } : Jvm.MethodName) prog_1_method_9_code (2 : Nat) (Option.some Jvm.ClassFile.FieldType.int)) ∈ lw_all := lw_g (lw_at lw_m3 133 rfl) rfl
theorem q617 : (Jvm.Cond.instanceMethod ({ cls := "BlockPacker", name := "size", desc := "()I" } : Jvm.MethodName)) ∈ lw_all := lw_g (lw_at lw_m3 135 rfl) rfl
theorem q618 : (Jvm.Cond.selects "BlockPacker" ({ cls := "BlockPacker", name := "size", desc := "()I" } : Jvm.MethodName) ({ cls := "BlockPacker", name := "size", desc := "()I" } : Jvm.MethodName)) ∈ lw_all := lw_g (lw_at lw_m3 136 rfl) rfl
theorem q619 : (Jvm.Cond.code ({ cls := "BlockPacker", name := "size", desc := "()I" } : Jvm.MethodName) prog_1_method_10_code (1 : Nat) (Option.some Jvm.ClassFile.FieldType.int)) ∈ lw_all := lw_g (lw_at lw_m3 137 rfl) rfl
theorem in_X0 : ∀ w ∈ wsX00, w ∈ lw_all := lw_in wsX00 [69, 71, 73, 75, 77, 79, 81, 83] (by decide +kernel) (by decide +kernel)
/-! BlockPackerModel -/
set_option maxRecDepth 100000
def RX5 : String := "BlockPackerModel"
def TX5 : u_T := fun k => match k with
  | 0 => ("BlockPackerModel", "text", "[B", true)
  | 1 => ("BlockPackerModel", "kept", "[B", true)
  | 2 => ("BlockPackerModel", "shown", "[B", true)
  | 3 => ("BlockPackerModel", "size", "I", false)
  | 4 => ("BlockPackerModel", "length", "I", false)
  | _ => ("BlockPackerModel", "back", "I", false)
def tyX5 : Nat → FieldType := fun k => match k with
  | 0 => .array .byte
  | 1 => .array .byte
  | 2 => .array .byte
  | 3 => .int
  | 4 => .int
  | _ => .int
abbrev wsX50 : List Cond := u_ws RX5 TX5 6
theorem nmX5 : ∀ a, a < 6 → ∀ b, b < 6 → a ≠ b → (TX5 a).2.1 ≠ (TX5 b).2.1 := by decide +kernel
theorem tyX5_ok : ∀ k, k < 6 → parseFieldDescriptor (TX5 k).2.2.1 = some (tyX5 k) := by decide +kernel
abbrev cX5_init : ByteArray := prog_3_method_1_code
def yX5_init : MethodName := ⟨RX5, "<init>", "()V"⟩
def dkwX5_init_1 : List UInt8 := [17, 64, 0, 188, 8, 181, 0, 16, 42, 2, 181, 0, 19, 177]
abbrev dktX5_init_1 : List UInt8 := dkwX5_init_1 ++ []
def dkwX5_init_0 : List UInt8 := [42, 183, 0, 1, 42, 17, 64, 0, 188, 8, 181, 0, 7, 42, 17, 64, 0, 188, 8, 181, 0, 13, 42]
abbrev dktX5_init_0 : List UInt8 := dkwX5_init_0 ++ dktX5_init_1
theorem dksX5_init_0 : cX5_init.data.toList.drop 0 = dktX5_init_0 := by decide +kernel
theorem dksX5_init_1 : cX5_init.data.toList.drop 23 = dktX5_init_1 := dk_seg dksX5_init_0 23 rfl rfl
theorem dX5_init_0 : decode cX5_init 0 = .ok (.aload_n 0, 1) := dk_42 (dk_at dksX5_init_0 0 rfl rfl)
theorem dX5_init_1 : decode cX5_init 1 = .ok (.invokespecial 1, 3) := dk_183 0 1 (dk_at dksX5_init_0 1 rfl rfl)
theorem dX5_init_4 : decode cX5_init 4 = .ok (.aload_n 0, 1) := dk_42 (dk_at dksX5_init_0 4 rfl rfl)
theorem dX5_init_5 : decode cX5_init 5 = .ok (.sipush 16384, 3) := dk_17 64 0 (dk_at dksX5_init_0 5 rfl rfl)
theorem dX5_init_8 : decode cX5_init 8 = .ok (.newarray .byte, 2) := dk_188_8 (dk_at dksX5_init_0 8 rfl rfl)
theorem dX5_init_10 : decode cX5_init 10 = .ok (.putfield 7, 3) := dk_181 0 7 (dk_at dksX5_init_0 10 rfl rfl)
theorem dX5_init_13 : decode cX5_init 13 = .ok (.aload_n 0, 1) := dk_42 (dk_at dksX5_init_0 13 rfl rfl)
theorem dX5_init_14 : decode cX5_init 14 = .ok (.sipush 16384, 3) := dk_17 64 0 (dk_at dksX5_init_0 14 rfl rfl)
theorem dX5_init_17 : decode cX5_init 17 = .ok (.newarray .byte, 2) := dk_188_8 (dk_at dksX5_init_0 17 rfl rfl)
theorem dX5_init_19 : decode cX5_init 19 = .ok (.putfield 13, 3) := dk_181 0 13 (dk_at dksX5_init_0 19 rfl rfl)
theorem dX5_init_22 : decode cX5_init 22 = .ok (.aload_n 0, 1) := dk_42 (dk_at dksX5_init_0 22 rfl rfl)
theorem dX5_init_23 : decode cX5_init 23 = .ok (.sipush 16384, 3) := dk_17 64 0 (dk_at dksX5_init_1 0 rfl rfl)
theorem dX5_init_26 : decode cX5_init 26 = .ok (.newarray .byte, 2) := dk_188_8 (dk_at dksX5_init_1 3 rfl rfl)
theorem dX5_init_28 : decode cX5_init 28 = .ok (.putfield 16, 3) := dk_181 0 16 (dk_at dksX5_init_1 5 rfl rfl)
theorem dX5_init_31 : decode cX5_init 31 = .ok (.aload_n 0, 1) := dk_42 (dk_at dksX5_init_1 8 rfl rfl)
theorem dX5_init_32 : decode cX5_init 32 = .ok (.iconst (-1), 1) := dk_2 (dk_at dksX5_init_1 9 rfl rfl)
theorem dX5_init_33 : decode cX5_init 33 = .ok (.putfield 19, 3) := dk_181 0 19 (dk_at dksX5_init_1 10 rfl rfl)
theorem dX5_init_36 : decode cX5_init 36 = .ok (.return_, 1) := dk_177 (dk_at dksX5_init_1 13 rfl rfl)
abbrev cX5_put : ByteArray := prog_3_method_2_code
def yX5_put : MethodName := ⟨RX5, "put", "(IIII)Z"⟩
def dkwX5_put_4 : List UInt8 := [42, 42, 180, 0, 23, 16, 16, 96, 181, 0, 23, 4, 172]
abbrev dktX5_put_4 : List UInt8 := dkwX5_put_4 ++ []
def dkwX5_put_3 : List UInt8 := [21, 5, 96, 21, 6, 16, 24, 16, 8, 21, 5, 6, 126, 104, 100, 124, 145, 84, 132, 5, 1, 167, 255, 184]
abbrev dktX5_put_3 : List UInt8 := dkwX5_put_3 ++ dktX5_put_4
def dkwX5_put_2 : List UInt8 := [21, 5, 16, 12, 162, 0, 7, 29, 167, 0, 5, 21, 4, 54, 6, 42, 180, 0, 7, 42, 180, 0, 23]
abbrev dktX5_put_2 : List UInt8 := dkwX5_put_2 ++ dktX5_put_3
def dkwX5_put_1 : List UInt8 := [162, 0, 71, 21, 5, 7, 162, 0, 7, 27, 167, 0, 27, 21, 5, 16, 8, 162, 0, 7, 28, 167, 0, 16]
abbrev dktX5_put_1 : List UInt8 := dkwX5_put_1 ++ dktX5_put_2
def dkwX5_put_0 : List UInt8 := [42, 180, 0, 23, 16, 16, 96, 17, 64, 0, 164, 0, 5, 3, 172, 3, 54, 5, 21, 5, 16, 16]
abbrev dktX5_put_0 : List UInt8 := dkwX5_put_0 ++ dktX5_put_1
theorem dksX5_put_0 : cX5_put.data.toList.drop 0 = dktX5_put_0 := by decide +kernel
theorem dksX5_put_1 : cX5_put.data.toList.drop 22 = dktX5_put_1 := dk_seg dksX5_put_0 22 rfl rfl
theorem dksX5_put_2 : cX5_put.data.toList.drop 46 = dktX5_put_2 := dk_seg dksX5_put_1 24 rfl rfl
theorem dksX5_put_3 : cX5_put.data.toList.drop 69 = dktX5_put_3 := dk_seg dksX5_put_2 23 rfl rfl
theorem dksX5_put_4 : cX5_put.data.toList.drop 93 = dktX5_put_4 := dk_seg dksX5_put_3 24 rfl rfl
theorem dX5_put_0 : decode cX5_put 0 = .ok (.aload_n 0, 1) := dk_42 (dk_at dksX5_put_0 0 rfl rfl)
theorem dX5_put_1 : decode cX5_put 1 = .ok (.getfield 23, 3) := dk_180 0 23 (dk_at dksX5_put_0 1 rfl rfl)
theorem dX5_put_4 : decode cX5_put 4 = .ok (.bipush 16, 2) := dk_16 16 (dk_at dksX5_put_0 4 rfl rfl)
theorem dX5_put_6 : decode cX5_put 6 = .ok (.iadd, 1) := dk_96 (dk_at dksX5_put_0 6 rfl rfl)
theorem dX5_put_7 : decode cX5_put 7 = .ok (.sipush 16384, 3) := dk_17 64 0 (dk_at dksX5_put_0 7 rfl rfl)
theorem dX5_put_10 : decode cX5_put 10 = .ok (.if_icmp .le 5, 3) := dk_164 0 5 (dk_at dksX5_put_0 10 rfl rfl)
theorem dX5_put_13 : decode cX5_put 13 = .ok (.iconst 0, 1) := dk_3 (dk_at dksX5_put_0 13 rfl rfl)
theorem dX5_put_14 : decode cX5_put 14 = .ok (.ireturn, 1) := dk_172 (dk_at dksX5_put_0 14 rfl rfl)
theorem dX5_put_15 : decode cX5_put 15 = .ok (.iconst 0, 1) := dk_3 (dk_at dksX5_put_0 15 rfl rfl)
theorem dX5_put_16 : decode cX5_put 16 = .ok (.istore 5, 2) := dk_54 5 (dk_at dksX5_put_0 16 rfl rfl)
theorem dX5_put_18 : decode cX5_put 18 = .ok (.iload 5, 2) := dk_21 5 (dk_at dksX5_put_0 18 rfl rfl)
theorem dX5_put_20 : decode cX5_put 20 = .ok (.bipush 16, 2) := dk_16 16 (dk_at dksX5_put_0 20 rfl rfl)
theorem dX5_put_22 : decode cX5_put 22 = .ok (.if_icmp .ge 71, 3) := dk_162 0 71 (dk_at dksX5_put_1 0 rfl rfl)
theorem dX5_put_25 : decode cX5_put 25 = .ok (.iload 5, 2) := dk_21 5 (dk_at dksX5_put_1 3 rfl rfl)
theorem dX5_put_27 : decode cX5_put 27 = .ok (.iconst 4, 1) := dk_7 (dk_at dksX5_put_1 5 rfl rfl)
theorem dX5_put_28 : decode cX5_put 28 = .ok (.if_icmp .ge 7, 3) := dk_162 0 7 (dk_at dksX5_put_1 6 rfl rfl)
theorem dX5_put_31 : decode cX5_put 31 = .ok (.iload_n 1, 1) := dk_27 (dk_at dksX5_put_1 9 rfl rfl)
theorem dX5_put_32 : decode cX5_put 32 = .ok (.goto 27, 3) := dk_167 0 27 (dk_at dksX5_put_1 10 rfl rfl)
theorem dX5_put_35 : decode cX5_put 35 = .ok (.iload 5, 2) := dk_21 5 (dk_at dksX5_put_1 13 rfl rfl)
theorem dX5_put_37 : decode cX5_put 37 = .ok (.bipush 8, 2) := dk_16 8 (dk_at dksX5_put_1 15 rfl rfl)
theorem dX5_put_39 : decode cX5_put 39 = .ok (.if_icmp .ge 7, 3) := dk_162 0 7 (dk_at dksX5_put_1 17 rfl rfl)
theorem dX5_put_42 : decode cX5_put 42 = .ok (.iload_n 2, 1) := dk_28 (dk_at dksX5_put_1 20 rfl rfl)
theorem dX5_put_43 : decode cX5_put 43 = .ok (.goto 16, 3) := dk_167 0 16 (dk_at dksX5_put_1 21 rfl rfl)
theorem dX5_put_46 : decode cX5_put 46 = .ok (.iload 5, 2) := dk_21 5 (dk_at dksX5_put_2 0 rfl rfl)
theorem dX5_put_48 : decode cX5_put 48 = .ok (.bipush 12, 2) := dk_16 12 (dk_at dksX5_put_2 2 rfl rfl)
theorem dX5_put_50 : decode cX5_put 50 = .ok (.if_icmp .ge 7, 3) := dk_162 0 7 (dk_at dksX5_put_2 4 rfl rfl)
theorem dX5_put_53 : decode cX5_put 53 = .ok (.iload_n 3, 1) := dk_29 (dk_at dksX5_put_2 7 rfl rfl)
theorem dX5_put_54 : decode cX5_put 54 = .ok (.goto 5, 3) := dk_167 0 5 (dk_at dksX5_put_2 8 rfl rfl)
theorem dX5_put_57 : decode cX5_put 57 = .ok (.iload 4, 2) := dk_21 4 (dk_at dksX5_put_2 11 rfl rfl)
theorem dX5_put_59 : decode cX5_put 59 = .ok (.istore 6, 2) := dk_54 6 (dk_at dksX5_put_2 13 rfl rfl)
theorem dX5_put_61 : decode cX5_put 61 = .ok (.aload_n 0, 1) := dk_42 (dk_at dksX5_put_2 15 rfl rfl)
theorem dX5_put_62 : decode cX5_put 62 = .ok (.getfield 7, 3) := dk_180 0 7 (dk_at dksX5_put_2 16 rfl rfl)
theorem dX5_put_65 : decode cX5_put 65 = .ok (.aload_n 0, 1) := dk_42 (dk_at dksX5_put_2 19 rfl rfl)
theorem dX5_put_66 : decode cX5_put 66 = .ok (.getfield 23, 3) := dk_180 0 23 (dk_at dksX5_put_2 20 rfl rfl)
theorem dX5_put_69 : decode cX5_put 69 = .ok (.iload 5, 2) := dk_21 5 (dk_at dksX5_put_3 0 rfl rfl)
theorem dX5_put_71 : decode cX5_put 71 = .ok (.iadd, 1) := dk_96 (dk_at dksX5_put_3 2 rfl rfl)
theorem dX5_put_72 : decode cX5_put 72 = .ok (.iload 6, 2) := dk_21 6 (dk_at dksX5_put_3 3 rfl rfl)
theorem dX5_put_74 : decode cX5_put 74 = .ok (.bipush 24, 2) := dk_16 24 (dk_at dksX5_put_3 5 rfl rfl)
theorem dX5_put_76 : decode cX5_put 76 = .ok (.bipush 8, 2) := dk_16 8 (dk_at dksX5_put_3 7 rfl rfl)
theorem dX5_put_78 : decode cX5_put 78 = .ok (.iload 5, 2) := dk_21 5 (dk_at dksX5_put_3 9 rfl rfl)
theorem dX5_put_80 : decode cX5_put 80 = .ok (.iconst 3, 1) := dk_6 (dk_at dksX5_put_3 11 rfl rfl)
theorem dX5_put_81 : decode cX5_put 81 = .ok (.iand, 1) := dk_126 (dk_at dksX5_put_3 12 rfl rfl)
theorem dX5_put_82 : decode cX5_put 82 = .ok (.imul, 1) := dk_104 (dk_at dksX5_put_3 13 rfl rfl)
theorem dX5_put_83 : decode cX5_put 83 = .ok (.isub, 1) := dk_100 (dk_at dksX5_put_3 14 rfl rfl)
theorem dX5_put_84 : decode cX5_put 84 = .ok (.iushr, 1) := dk_124 (dk_at dksX5_put_3 15 rfl rfl)
theorem dX5_put_85 : decode cX5_put 85 = .ok (.i2b, 1) := dk_145 (dk_at dksX5_put_3 16 rfl rfl)
theorem dX5_put_86 : decode cX5_put 86 = .ok (.bastore, 1) := dk_84 (dk_at dksX5_put_3 17 rfl rfl)
theorem dX5_put_87 : decode cX5_put 87 = .ok (.iinc 5 1, 3) := dk_132 5 1 (dk_at dksX5_put_3 18 rfl rfl)
theorem dX5_put_90 : decode cX5_put 90 = .ok (.goto (-72), 3) := dk_167 255 184 (dk_at dksX5_put_3 21 rfl rfl)
theorem dX5_put_93 : decode cX5_put 93 = .ok (.aload_n 0, 1) := dk_42 (dk_at dksX5_put_4 0 rfl rfl)
theorem dX5_put_94 : decode cX5_put 94 = .ok (.aload_n 0, 1) := dk_42 (dk_at dksX5_put_4 1 rfl rfl)
theorem dX5_put_95 : decode cX5_put 95 = .ok (.getfield 23, 3) := dk_180 0 23 (dk_at dksX5_put_4 2 rfl rfl)
theorem dX5_put_98 : decode cX5_put 98 = .ok (.bipush 16, 2) := dk_16 16 (dk_at dksX5_put_4 5 rfl rfl)
theorem dX5_put_100 : decode cX5_put 100 = .ok (.iadd, 1) := dk_96 (dk_at dksX5_put_4 7 rfl rfl)
theorem dX5_put_101 : decode cX5_put 101 = .ok (.putfield 23, 3) := dk_181 0 23 (dk_at dksX5_put_4 8 rfl rfl)
theorem dX5_put_104 : decode cX5_put 104 = .ok (.iconst 1, 1) := dk_4 (dk_at dksX5_put_4 11 rfl rfl)
theorem dX5_put_105 : decode cX5_put 105 = .ok (.ireturn, 1) := dk_172 (dk_at dksX5_put_4 12 rfl rfl)
abbrev cX5_repeat : ByteArray := prog_3_method_3_code
def yX5_repeat : MethodName := ⟨RX5, "repeat", "(II)I"⟩
def dkwX5_repeat_4 : List UInt8 := [167, 255, 218, 21, 4, 172]
abbrev dktX5_repeat_4 : List UInt8 := dkwX5_repeat_4 ++ []
def dkwX5_repeat_3 : List UInt8 := [42, 180, 0, 7, 29, 21, 5, 96, 51, 84, 42, 42, 180, 0, 23, 4, 96, 181, 0, 23, 132, 5, 1]
abbrev dktX5_repeat_3 : List UInt8 := dkwX5_repeat_3 ++ dktX5_repeat_4
def dkwX5_repeat_2 : List UInt8 := [180, 0, 23, 100, 54, 4, 3, 54, 5, 21, 5, 21, 4, 162, 0, 37, 42, 180, 0, 7, 42, 180, 0, 23]
abbrev dktX5_repeat_2 : List UInt8 := dkwX5_repeat_2 ++ dktX5_repeat_3
def dkwX5_repeat_1 : List UInt8 := [17, 4, 1, 112, 54, 4, 42, 180, 0, 23, 21, 4, 96, 17, 64, 0, 164, 0, 13, 17, 64, 0, 42]
abbrev dktX5_repeat_1 : List UInt8 := dkwX5_repeat_1 ++ dktX5_repeat_2
def dkwX5_repeat_0 : List UInt8 := [42, 180, 0, 23, 154, 0, 5, 2, 172, 27, 18, 26, 126, 42, 180, 0, 23, 112, 62, 28, 18, 26, 126]
abbrev dktX5_repeat_0 : List UInt8 := dkwX5_repeat_0 ++ dktX5_repeat_1
theorem dksX5_repeat_0 : cX5_repeat.data.toList.drop 0 = dktX5_repeat_0 := by decide +kernel
theorem dksX5_repeat_1 : cX5_repeat.data.toList.drop 23 = dktX5_repeat_1 := dk_seg dksX5_repeat_0 23 rfl rfl
theorem dksX5_repeat_2 : cX5_repeat.data.toList.drop 46 = dktX5_repeat_2 := dk_seg dksX5_repeat_1 23 rfl rfl
theorem dksX5_repeat_3 : cX5_repeat.data.toList.drop 70 = dktX5_repeat_3 := dk_seg dksX5_repeat_2 24 rfl rfl
theorem dksX5_repeat_4 : cX5_repeat.data.toList.drop 93 = dktX5_repeat_4 := dk_seg dksX5_repeat_3 23 rfl rfl
theorem dX5_repeat_0 : decode cX5_repeat 0 = .ok (.aload_n 0, 1) := dk_42 (dk_at dksX5_repeat_0 0 rfl rfl)
theorem dX5_repeat_1 : decode cX5_repeat 1 = .ok (.getfield 23, 3) := dk_180 0 23 (dk_at dksX5_repeat_0 1 rfl rfl)
theorem dX5_repeat_4 : decode cX5_repeat 4 = .ok (.ifCond .ne 5, 3) := dk_154 0 5 (dk_at dksX5_repeat_0 4 rfl rfl)
theorem dX5_repeat_7 : decode cX5_repeat 7 = .ok (.iconst (-1), 1) := dk_2 (dk_at dksX5_repeat_0 7 rfl rfl)
theorem dX5_repeat_8 : decode cX5_repeat 8 = .ok (.ireturn, 1) := dk_172 (dk_at dksX5_repeat_0 8 rfl rfl)
theorem dX5_repeat_9 : decode cX5_repeat 9 = .ok (.iload_n 1, 1) := dk_27 (dk_at dksX5_repeat_0 9 rfl rfl)
theorem dX5_repeat_10 : decode cX5_repeat 10 = .ok (.ldc 26, 2) := dk_18 26 (dk_at dksX5_repeat_0 10 rfl rfl)
theorem dX5_repeat_12 : decode cX5_repeat 12 = .ok (.iand, 1) := dk_126 (dk_at dksX5_repeat_0 12 rfl rfl)
theorem dX5_repeat_13 : decode cX5_repeat 13 = .ok (.aload_n 0, 1) := dk_42 (dk_at dksX5_repeat_0 13 rfl rfl)
theorem dX5_repeat_14 : decode cX5_repeat 14 = .ok (.getfield 23, 3) := dk_180 0 23 (dk_at dksX5_repeat_0 14 rfl rfl)
theorem dX5_repeat_17 : decode cX5_repeat 17 = .ok (.irem, 1) := dk_112 (dk_at dksX5_repeat_0 17 rfl rfl)
theorem dX5_repeat_18 : decode cX5_repeat 18 = .ok (.istore_n 3, 1) := dk_62 (dk_at dksX5_repeat_0 18 rfl rfl)
theorem dX5_repeat_19 : decode cX5_repeat 19 = .ok (.iload_n 2, 1) := dk_28 (dk_at dksX5_repeat_0 19 rfl rfl)
theorem dX5_repeat_20 : decode cX5_repeat 20 = .ok (.ldc 26, 2) := dk_18 26 (dk_at dksX5_repeat_0 20 rfl rfl)
theorem dX5_repeat_22 : decode cX5_repeat 22 = .ok (.iand, 1) := dk_126 (dk_at dksX5_repeat_0 22 rfl rfl)
theorem dX5_repeat_23 : decode cX5_repeat 23 = .ok (.sipush 1025, 3) := dk_17 4 1 (dk_at dksX5_repeat_1 0 rfl rfl)
theorem dX5_repeat_26 : decode cX5_repeat 26 = .ok (.irem, 1) := dk_112 (dk_at dksX5_repeat_1 3 rfl rfl)
theorem dX5_repeat_27 : decode cX5_repeat 27 = .ok (.istore 4, 2) := dk_54 4 (dk_at dksX5_repeat_1 4 rfl rfl)
theorem dX5_repeat_29 : decode cX5_repeat 29 = .ok (.aload_n 0, 1) := dk_42 (dk_at dksX5_repeat_1 6 rfl rfl)
theorem dX5_repeat_30 : decode cX5_repeat 30 = .ok (.getfield 23, 3) := dk_180 0 23 (dk_at dksX5_repeat_1 7 rfl rfl)
theorem dX5_repeat_33 : decode cX5_repeat 33 = .ok (.iload 4, 2) := dk_21 4 (dk_at dksX5_repeat_1 10 rfl rfl)
theorem dX5_repeat_35 : decode cX5_repeat 35 = .ok (.iadd, 1) := dk_96 (dk_at dksX5_repeat_1 12 rfl rfl)
theorem dX5_repeat_36 : decode cX5_repeat 36 = .ok (.sipush 16384, 3) := dk_17 64 0 (dk_at dksX5_repeat_1 13 rfl rfl)
theorem dX5_repeat_39 : decode cX5_repeat 39 = .ok (.if_icmp .le 13, 3) := dk_164 0 13 (dk_at dksX5_repeat_1 16 rfl rfl)
theorem dX5_repeat_42 : decode cX5_repeat 42 = .ok (.sipush 16384, 3) := dk_17 64 0 (dk_at dksX5_repeat_1 19 rfl rfl)
theorem dX5_repeat_45 : decode cX5_repeat 45 = .ok (.aload_n 0, 1) := dk_42 (dk_at dksX5_repeat_1 22 rfl rfl)
theorem dX5_repeat_46 : decode cX5_repeat 46 = .ok (.getfield 23, 3) := dk_180 0 23 (dk_at dksX5_repeat_2 0 rfl rfl)
theorem dX5_repeat_49 : decode cX5_repeat 49 = .ok (.isub, 1) := dk_100 (dk_at dksX5_repeat_2 3 rfl rfl)
theorem dX5_repeat_50 : decode cX5_repeat 50 = .ok (.istore 4, 2) := dk_54 4 (dk_at dksX5_repeat_2 4 rfl rfl)
theorem dX5_repeat_52 : decode cX5_repeat 52 = .ok (.iconst 0, 1) := dk_3 (dk_at dksX5_repeat_2 6 rfl rfl)
theorem dX5_repeat_53 : decode cX5_repeat 53 = .ok (.istore 5, 2) := dk_54 5 (dk_at dksX5_repeat_2 7 rfl rfl)
theorem dX5_repeat_55 : decode cX5_repeat 55 = .ok (.iload 5, 2) := dk_21 5 (dk_at dksX5_repeat_2 9 rfl rfl)
theorem dX5_repeat_57 : decode cX5_repeat 57 = .ok (.iload 4, 2) := dk_21 4 (dk_at dksX5_repeat_2 11 rfl rfl)
theorem dX5_repeat_59 : decode cX5_repeat 59 = .ok (.if_icmp .ge 37, 3) := dk_162 0 37 (dk_at dksX5_repeat_2 13 rfl rfl)
theorem dX5_repeat_62 : decode cX5_repeat 62 = .ok (.aload_n 0, 1) := dk_42 (dk_at dksX5_repeat_2 16 rfl rfl)
theorem dX5_repeat_63 : decode cX5_repeat 63 = .ok (.getfield 7, 3) := dk_180 0 7 (dk_at dksX5_repeat_2 17 rfl rfl)
theorem dX5_repeat_66 : decode cX5_repeat 66 = .ok (.aload_n 0, 1) := dk_42 (dk_at dksX5_repeat_2 20 rfl rfl)
theorem dX5_repeat_67 : decode cX5_repeat 67 = .ok (.getfield 23, 3) := dk_180 0 23 (dk_at dksX5_repeat_2 21 rfl rfl)
theorem dX5_repeat_70 : decode cX5_repeat 70 = .ok (.aload_n 0, 1) := dk_42 (dk_at dksX5_repeat_3 0 rfl rfl)
theorem dX5_repeat_71 : decode cX5_repeat 71 = .ok (.getfield 7, 3) := dk_180 0 7 (dk_at dksX5_repeat_3 1 rfl rfl)
theorem dX5_repeat_74 : decode cX5_repeat 74 = .ok (.iload_n 3, 1) := dk_29 (dk_at dksX5_repeat_3 4 rfl rfl)
theorem dX5_repeat_75 : decode cX5_repeat 75 = .ok (.iload 5, 2) := dk_21 5 (dk_at dksX5_repeat_3 5 rfl rfl)
theorem dX5_repeat_77 : decode cX5_repeat 77 = .ok (.iadd, 1) := dk_96 (dk_at dksX5_repeat_3 7 rfl rfl)
theorem dX5_repeat_78 : decode cX5_repeat 78 = .ok (.baload, 1) := dk_51 (dk_at dksX5_repeat_3 8 rfl rfl)
theorem dX5_repeat_79 : decode cX5_repeat 79 = .ok (.bastore, 1) := dk_84 (dk_at dksX5_repeat_3 9 rfl rfl)
theorem dX5_repeat_80 : decode cX5_repeat 80 = .ok (.aload_n 0, 1) := dk_42 (dk_at dksX5_repeat_3 10 rfl rfl)
theorem dX5_repeat_81 : decode cX5_repeat 81 = .ok (.aload_n 0, 1) := dk_42 (dk_at dksX5_repeat_3 11 rfl rfl)
theorem dX5_repeat_82 : decode cX5_repeat 82 = .ok (.getfield 23, 3) := dk_180 0 23 (dk_at dksX5_repeat_3 12 rfl rfl)
theorem dX5_repeat_85 : decode cX5_repeat 85 = .ok (.iconst 1, 1) := dk_4 (dk_at dksX5_repeat_3 15 rfl rfl)
theorem dX5_repeat_86 : decode cX5_repeat 86 = .ok (.iadd, 1) := dk_96 (dk_at dksX5_repeat_3 16 rfl rfl)
theorem dX5_repeat_87 : decode cX5_repeat 87 = .ok (.putfield 23, 3) := dk_181 0 23 (dk_at dksX5_repeat_3 17 rfl rfl)
theorem dX5_repeat_90 : decode cX5_repeat 90 = .ok (.iinc 5 1, 3) := dk_132 5 1 (dk_at dksX5_repeat_3 20 rfl rfl)
theorem dX5_repeat_93 : decode cX5_repeat 93 = .ok (.goto (-38), 3) := dk_167 255 218 (dk_at dksX5_repeat_4 0 rfl rfl)
theorem dX5_repeat_96 : decode cX5_repeat 96 = .ok (.iload 4, 2) := dk_21 4 (dk_at dksX5_repeat_4 3 rfl rfl)
theorem dX5_repeat_98 : decode cX5_repeat 98 = .ok (.ireturn, 1) := dk_172 (dk_at dksX5_repeat_4 5 rfl rfl)
abbrev cX5_fill : ByteArray := prog_3_method_4_code
def yX5_fill : MethodName := ⟨RX5, "fill", "(II)I"⟩
def dkwX5_fill_2 : List UInt8 := [145, 84, 42, 42, 180, 0, 23, 4, 96, 181, 0, 23, 132, 4, 1, 167, 255, 226, 29, 172]
abbrev dktX5_fill_2 : List UInt8 := dkwX5_fill_2 ++ []
def dkwX5_fill_1 : List UInt8 := [42, 180, 0, 23, 100, 62, 3, 54, 4, 21, 4, 29, 162, 0, 30, 42, 180, 0, 7, 42, 180, 0, 23, 27]
abbrev dktX5_fill_1 : List UInt8 := dkwX5_fill_1 ++ dktX5_fill_2
def dkwX5_fill_0 : List UInt8 := [28, 18, 26, 126, 17, 4, 1, 112, 62, 42, 180, 0, 23, 29, 96, 17, 64, 0, 164, 0, 12, 17, 64, 0]
abbrev dktX5_fill_0 : List UInt8 := dkwX5_fill_0 ++ dktX5_fill_1
theorem dksX5_fill_0 : cX5_fill.data.toList.drop 0 = dktX5_fill_0 := by decide +kernel
theorem dksX5_fill_1 : cX5_fill.data.toList.drop 24 = dktX5_fill_1 := dk_seg dksX5_fill_0 24 rfl rfl
theorem dksX5_fill_2 : cX5_fill.data.toList.drop 48 = dktX5_fill_2 := dk_seg dksX5_fill_1 24 rfl rfl
theorem dX5_fill_0 : decode cX5_fill 0 = .ok (.iload_n 2, 1) := dk_28 (dk_at dksX5_fill_0 0 rfl rfl)
theorem dX5_fill_1 : decode cX5_fill 1 = .ok (.ldc 26, 2) := dk_18 26 (dk_at dksX5_fill_0 1 rfl rfl)
theorem dX5_fill_3 : decode cX5_fill 3 = .ok (.iand, 1) := dk_126 (dk_at dksX5_fill_0 3 rfl rfl)
theorem dX5_fill_4 : decode cX5_fill 4 = .ok (.sipush 1025, 3) := dk_17 4 1 (dk_at dksX5_fill_0 4 rfl rfl)
theorem dX5_fill_7 : decode cX5_fill 7 = .ok (.irem, 1) := dk_112 (dk_at dksX5_fill_0 7 rfl rfl)
theorem dX5_fill_8 : decode cX5_fill 8 = .ok (.istore_n 3, 1) := dk_62 (dk_at dksX5_fill_0 8 rfl rfl)
theorem dX5_fill_9 : decode cX5_fill 9 = .ok (.aload_n 0, 1) := dk_42 (dk_at dksX5_fill_0 9 rfl rfl)
theorem dX5_fill_10 : decode cX5_fill 10 = .ok (.getfield 23, 3) := dk_180 0 23 (dk_at dksX5_fill_0 10 rfl rfl)
theorem dX5_fill_13 : decode cX5_fill 13 = .ok (.iload_n 3, 1) := dk_29 (dk_at dksX5_fill_0 13 rfl rfl)
theorem dX5_fill_14 : decode cX5_fill 14 = .ok (.iadd, 1) := dk_96 (dk_at dksX5_fill_0 14 rfl rfl)
theorem dX5_fill_15 : decode cX5_fill 15 = .ok (.sipush 16384, 3) := dk_17 64 0 (dk_at dksX5_fill_0 15 rfl rfl)
theorem dX5_fill_18 : decode cX5_fill 18 = .ok (.if_icmp .le 12, 3) := dk_164 0 12 (dk_at dksX5_fill_0 18 rfl rfl)
theorem dX5_fill_21 : decode cX5_fill 21 = .ok (.sipush 16384, 3) := dk_17 64 0 (dk_at dksX5_fill_0 21 rfl rfl)
theorem dX5_fill_24 : decode cX5_fill 24 = .ok (.aload_n 0, 1) := dk_42 (dk_at dksX5_fill_1 0 rfl rfl)
theorem dX5_fill_25 : decode cX5_fill 25 = .ok (.getfield 23, 3) := dk_180 0 23 (dk_at dksX5_fill_1 1 rfl rfl)
theorem dX5_fill_28 : decode cX5_fill 28 = .ok (.isub, 1) := dk_100 (dk_at dksX5_fill_1 4 rfl rfl)
theorem dX5_fill_29 : decode cX5_fill 29 = .ok (.istore_n 3, 1) := dk_62 (dk_at dksX5_fill_1 5 rfl rfl)
theorem dX5_fill_30 : decode cX5_fill 30 = .ok (.iconst 0, 1) := dk_3 (dk_at dksX5_fill_1 6 rfl rfl)
theorem dX5_fill_31 : decode cX5_fill 31 = .ok (.istore 4, 2) := dk_54 4 (dk_at dksX5_fill_1 7 rfl rfl)
theorem dX5_fill_33 : decode cX5_fill 33 = .ok (.iload 4, 2) := dk_21 4 (dk_at dksX5_fill_1 9 rfl rfl)
theorem dX5_fill_35 : decode cX5_fill 35 = .ok (.iload_n 3, 1) := dk_29 (dk_at dksX5_fill_1 11 rfl rfl)
theorem dX5_fill_36 : decode cX5_fill 36 = .ok (.if_icmp .ge 30, 3) := dk_162 0 30 (dk_at dksX5_fill_1 12 rfl rfl)
theorem dX5_fill_39 : decode cX5_fill 39 = .ok (.aload_n 0, 1) := dk_42 (dk_at dksX5_fill_1 15 rfl rfl)
theorem dX5_fill_40 : decode cX5_fill 40 = .ok (.getfield 7, 3) := dk_180 0 7 (dk_at dksX5_fill_1 16 rfl rfl)
theorem dX5_fill_43 : decode cX5_fill 43 = .ok (.aload_n 0, 1) := dk_42 (dk_at dksX5_fill_1 19 rfl rfl)
theorem dX5_fill_44 : decode cX5_fill 44 = .ok (.getfield 23, 3) := dk_180 0 23 (dk_at dksX5_fill_1 20 rfl rfl)
theorem dX5_fill_47 : decode cX5_fill 47 = .ok (.iload_n 1, 1) := dk_27 (dk_at dksX5_fill_1 23 rfl rfl)
theorem dX5_fill_48 : decode cX5_fill 48 = .ok (.i2b, 1) := dk_145 (dk_at dksX5_fill_2 0 rfl rfl)
theorem dX5_fill_49 : decode cX5_fill 49 = .ok (.bastore, 1) := dk_84 (dk_at dksX5_fill_2 1 rfl rfl)
theorem dX5_fill_50 : decode cX5_fill 50 = .ok (.aload_n 0, 1) := dk_42 (dk_at dksX5_fill_2 2 rfl rfl)
theorem dX5_fill_51 : decode cX5_fill 51 = .ok (.aload_n 0, 1) := dk_42 (dk_at dksX5_fill_2 3 rfl rfl)
theorem dX5_fill_52 : decode cX5_fill 52 = .ok (.getfield 23, 3) := dk_180 0 23 (dk_at dksX5_fill_2 4 rfl rfl)
theorem dX5_fill_55 : decode cX5_fill 55 = .ok (.iconst 1, 1) := dk_4 (dk_at dksX5_fill_2 7 rfl rfl)
theorem dX5_fill_56 : decode cX5_fill 56 = .ok (.iadd, 1) := dk_96 (dk_at dksX5_fill_2 8 rfl rfl)
theorem dX5_fill_57 : decode cX5_fill 57 = .ok (.putfield 23, 3) := dk_181 0 23 (dk_at dksX5_fill_2 9 rfl rfl)
theorem dX5_fill_60 : decode cX5_fill 60 = .ok (.iinc 4 1, 3) := dk_132 4 1 (dk_at dksX5_fill_2 12 rfl rfl)
theorem dX5_fill_63 : decode cX5_fill 63 = .ok (.goto (-30), 3) := dk_167 255 226 (dk_at dksX5_fill_2 15 rfl rfl)
theorem dX5_fill_66 : decode cX5_fill 66 = .ok (.iload_n 3, 1) := dk_29 (dk_at dksX5_fill_2 18 rfl rfl)
theorem dX5_fill_67 : decode cX5_fill 67 = .ok (.ireturn, 1) := dk_172 (dk_at dksX5_fill_2 19 rfl rfl)
abbrev cX5_trim : ByteArray := prog_3_method_5_code
def yX5_trim : MethodName := ⟨RX5, "trim", "(I)V"⟩
def dkwX5_trim_0 : List UInt8 := [42, 27, 18, 26, 126, 42, 180, 0, 23, 4, 96, 112, 181, 0, 23, 177]
abbrev dktX5_trim_0 : List UInt8 := dkwX5_trim_0 ++ []
theorem dksX5_trim_0 : cX5_trim.data.toList.drop 0 = dktX5_trim_0 := by decide +kernel
theorem dX5_trim_0 : decode cX5_trim 0 = .ok (.aload_n 0, 1) := dk_42 (dk_at dksX5_trim_0 0 rfl rfl)
theorem dX5_trim_1 : decode cX5_trim 1 = .ok (.iload_n 1, 1) := dk_27 (dk_at dksX5_trim_0 1 rfl rfl)
theorem dX5_trim_2 : decode cX5_trim 2 = .ok (.ldc 26, 2) := dk_18 26 (dk_at dksX5_trim_0 2 rfl rfl)
theorem dX5_trim_4 : decode cX5_trim 4 = .ok (.iand, 1) := dk_126 (dk_at dksX5_trim_0 4 rfl rfl)
theorem dX5_trim_5 : decode cX5_trim 5 = .ok (.aload_n 0, 1) := dk_42 (dk_at dksX5_trim_0 5 rfl rfl)
theorem dX5_trim_6 : decode cX5_trim 6 = .ok (.getfield 23, 3) := dk_180 0 23 (dk_at dksX5_trim_0 6 rfl rfl)
theorem dX5_trim_9 : decode cX5_trim 9 = .ok (.iconst 1, 1) := dk_4 (dk_at dksX5_trim_0 9 rfl rfl)
theorem dX5_trim_10 : decode cX5_trim 10 = .ok (.iadd, 1) := dk_96 (dk_at dksX5_trim_0 10 rfl rfl)
theorem dX5_trim_11 : decode cX5_trim 11 = .ok (.irem, 1) := dk_112 (dk_at dksX5_trim_0 11 rfl rfl)
theorem dX5_trim_12 : decode cX5_trim 12 = .ok (.putfield 23, 3) := dk_181 0 23 (dk_at dksX5_trim_0 12 rfl rfl)
theorem dX5_trim_15 : decode cX5_trim 15 = .ok (.return_, 1) := dk_177 (dk_at dksX5_trim_0 15 rfl rfl)
abbrev cX5_pack : ByteArray := prog_3_method_6_code
def yX5_pack : MethodName := ⟨RX5, "pack", "()Z"⟩
def dkwX5_pack_1 : List UInt8 := [132, 1, 1, 167, 255, 233, 42, 42, 180, 0, 23, 181, 0, 19, 4, 172]
abbrev dktX5_pack_1 : List UInt8 := dkwX5_pack_1 ++ []
def dkwX5_pack_0 : List UInt8 := [3, 60, 27, 42, 180, 0, 23, 162, 0, 21, 42, 180, 0, 13, 27, 42, 180, 0, 7, 27, 51, 84]
abbrev dktX5_pack_0 : List UInt8 := dkwX5_pack_0 ++ dktX5_pack_1
theorem dksX5_pack_0 : cX5_pack.data.toList.drop 0 = dktX5_pack_0 := by decide +kernel
theorem dksX5_pack_1 : cX5_pack.data.toList.drop 22 = dktX5_pack_1 := dk_seg dksX5_pack_0 22 rfl rfl
theorem dX5_pack_0 : decode cX5_pack 0 = .ok (.iconst 0, 1) := dk_3 (dk_at dksX5_pack_0 0 rfl rfl)
theorem dX5_pack_1 : decode cX5_pack 1 = .ok (.istore_n 1, 1) := dk_60 (dk_at dksX5_pack_0 1 rfl rfl)
theorem dX5_pack_2 : decode cX5_pack 2 = .ok (.iload_n 1, 1) := dk_27 (dk_at dksX5_pack_0 2 rfl rfl)
theorem dX5_pack_3 : decode cX5_pack 3 = .ok (.aload_n 0, 1) := dk_42 (dk_at dksX5_pack_0 3 rfl rfl)
theorem dX5_pack_4 : decode cX5_pack 4 = .ok (.getfield 23, 3) := dk_180 0 23 (dk_at dksX5_pack_0 4 rfl rfl)
theorem dX5_pack_7 : decode cX5_pack 7 = .ok (.if_icmp .ge 21, 3) := dk_162 0 21 (dk_at dksX5_pack_0 7 rfl rfl)
theorem dX5_pack_10 : decode cX5_pack 10 = .ok (.aload_n 0, 1) := dk_42 (dk_at dksX5_pack_0 10 rfl rfl)
theorem dX5_pack_11 : decode cX5_pack 11 = .ok (.getfield 13, 3) := dk_180 0 13 (dk_at dksX5_pack_0 11 rfl rfl)
theorem dX5_pack_14 : decode cX5_pack 14 = .ok (.iload_n 1, 1) := dk_27 (dk_at dksX5_pack_0 14 rfl rfl)
theorem dX5_pack_15 : decode cX5_pack 15 = .ok (.aload_n 0, 1) := dk_42 (dk_at dksX5_pack_0 15 rfl rfl)
theorem dX5_pack_16 : decode cX5_pack 16 = .ok (.getfield 7, 3) := dk_180 0 7 (dk_at dksX5_pack_0 16 rfl rfl)
theorem dX5_pack_19 : decode cX5_pack 19 = .ok (.iload_n 1, 1) := dk_27 (dk_at dksX5_pack_0 19 rfl rfl)
theorem dX5_pack_20 : decode cX5_pack 20 = .ok (.baload, 1) := dk_51 (dk_at dksX5_pack_0 20 rfl rfl)
theorem dX5_pack_21 : decode cX5_pack 21 = .ok (.bastore, 1) := dk_84 (dk_at dksX5_pack_0 21 rfl rfl)
theorem dX5_pack_22 : decode cX5_pack 22 = .ok (.iinc 1 1, 3) := dk_132 1 1 (dk_at dksX5_pack_1 0 rfl rfl)
theorem dX5_pack_25 : decode cX5_pack 25 = .ok (.goto (-23), 3) := dk_167 255 233 (dk_at dksX5_pack_1 3 rfl rfl)
theorem dX5_pack_28 : decode cX5_pack 28 = .ok (.aload_n 0, 1) := dk_42 (dk_at dksX5_pack_1 6 rfl rfl)
theorem dX5_pack_29 : decode cX5_pack 29 = .ok (.aload_n 0, 1) := dk_42 (dk_at dksX5_pack_1 7 rfl rfl)
theorem dX5_pack_30 : decode cX5_pack 30 = .ok (.getfield 23, 3) := dk_180 0 23 (dk_at dksX5_pack_1 8 rfl rfl)
theorem dX5_pack_33 : decode cX5_pack 33 = .ok (.putfield 19, 3) := dk_181 0 19 (dk_at dksX5_pack_1 11 rfl rfl)
theorem dX5_pack_36 : decode cX5_pack 36 = .ok (.iconst 1, 1) := dk_4 (dk_at dksX5_pack_1 14 rfl rfl)
theorem dX5_pack_37 : decode cX5_pack 37 = .ok (.ireturn, 1) := dk_172 (dk_at dksX5_pack_1 15 rfl rfl)
abbrev cX5_open : ByteArray := prog_3_method_7_code
def yX5_open : MethodName := ⟨RX5, "open", "()I"⟩
def dkwX5_open_2 : List UInt8 := [180, 0, 27, 172]
abbrev dktX5_open_2 : List UInt8 := dkwX5_open_2 ++ []
def dkwX5_open_1 : List UInt8 := [42, 180, 0, 13, 27, 51, 84, 132, 1, 1, 167, 255, 233, 42, 42, 180, 0, 19, 181, 0, 27, 42]
abbrev dktX5_open_1 : List UInt8 := dkwX5_open_1 ++ dktX5_open_2
def dkwX5_open_0 : List UInt8 := [42, 180, 0, 19, 156, 0, 5, 2, 172, 3, 60, 27, 42, 180, 0, 19, 162, 0, 21, 42, 180, 0, 16, 27]
abbrev dktX5_open_0 : List UInt8 := dkwX5_open_0 ++ dktX5_open_1
theorem dksX5_open_0 : cX5_open.data.toList.drop 0 = dktX5_open_0 := by decide +kernel
theorem dksX5_open_1 : cX5_open.data.toList.drop 24 = dktX5_open_1 := dk_seg dksX5_open_0 24 rfl rfl
theorem dksX5_open_2 : cX5_open.data.toList.drop 46 = dktX5_open_2 := dk_seg dksX5_open_1 22 rfl rfl
theorem dX5_open_0 : decode cX5_open 0 = .ok (.aload_n 0, 1) := dk_42 (dk_at dksX5_open_0 0 rfl rfl)
theorem dX5_open_1 : decode cX5_open 1 = .ok (.getfield 19, 3) := dk_180 0 19 (dk_at dksX5_open_0 1 rfl rfl)
theorem dX5_open_4 : decode cX5_open 4 = .ok (.ifCond .ge 5, 3) := dk_156 0 5 (dk_at dksX5_open_0 4 rfl rfl)
theorem dX5_open_7 : decode cX5_open 7 = .ok (.iconst (-1), 1) := dk_2 (dk_at dksX5_open_0 7 rfl rfl)
theorem dX5_open_8 : decode cX5_open 8 = .ok (.ireturn, 1) := dk_172 (dk_at dksX5_open_0 8 rfl rfl)
theorem dX5_open_9 : decode cX5_open 9 = .ok (.iconst 0, 1) := dk_3 (dk_at dksX5_open_0 9 rfl rfl)
theorem dX5_open_10 : decode cX5_open 10 = .ok (.istore_n 1, 1) := dk_60 (dk_at dksX5_open_0 10 rfl rfl)
theorem dX5_open_11 : decode cX5_open 11 = .ok (.iload_n 1, 1) := dk_27 (dk_at dksX5_open_0 11 rfl rfl)
theorem dX5_open_12 : decode cX5_open 12 = .ok (.aload_n 0, 1) := dk_42 (dk_at dksX5_open_0 12 rfl rfl)
theorem dX5_open_13 : decode cX5_open 13 = .ok (.getfield 19, 3) := dk_180 0 19 (dk_at dksX5_open_0 13 rfl rfl)
theorem dX5_open_16 : decode cX5_open 16 = .ok (.if_icmp .ge 21, 3) := dk_162 0 21 (dk_at dksX5_open_0 16 rfl rfl)
theorem dX5_open_19 : decode cX5_open 19 = .ok (.aload_n 0, 1) := dk_42 (dk_at dksX5_open_0 19 rfl rfl)
theorem dX5_open_20 : decode cX5_open 20 = .ok (.getfield 16, 3) := dk_180 0 16 (dk_at dksX5_open_0 20 rfl rfl)
theorem dX5_open_23 : decode cX5_open 23 = .ok (.iload_n 1, 1) := dk_27 (dk_at dksX5_open_0 23 rfl rfl)
theorem dX5_open_24 : decode cX5_open 24 = .ok (.aload_n 0, 1) := dk_42 (dk_at dksX5_open_1 0 rfl rfl)
theorem dX5_open_25 : decode cX5_open 25 = .ok (.getfield 13, 3) := dk_180 0 13 (dk_at dksX5_open_1 1 rfl rfl)
theorem dX5_open_28 : decode cX5_open 28 = .ok (.iload_n 1, 1) := dk_27 (dk_at dksX5_open_1 4 rfl rfl)
theorem dX5_open_29 : decode cX5_open 29 = .ok (.baload, 1) := dk_51 (dk_at dksX5_open_1 5 rfl rfl)
theorem dX5_open_30 : decode cX5_open 30 = .ok (.bastore, 1) := dk_84 (dk_at dksX5_open_1 6 rfl rfl)
theorem dX5_open_31 : decode cX5_open 31 = .ok (.iinc 1 1, 3) := dk_132 1 1 (dk_at dksX5_open_1 7 rfl rfl)
theorem dX5_open_34 : decode cX5_open 34 = .ok (.goto (-23), 3) := dk_167 255 233 (dk_at dksX5_open_1 10 rfl rfl)
theorem dX5_open_37 : decode cX5_open 37 = .ok (.aload_n 0, 1) := dk_42 (dk_at dksX5_open_1 13 rfl rfl)
theorem dX5_open_38 : decode cX5_open 38 = .ok (.aload_n 0, 1) := dk_42 (dk_at dksX5_open_1 14 rfl rfl)
theorem dX5_open_39 : decode cX5_open 39 = .ok (.getfield 19, 3) := dk_180 0 19 (dk_at dksX5_open_1 15 rfl rfl)
theorem dX5_open_42 : decode cX5_open 42 = .ok (.putfield 27, 3) := dk_181 0 27 (dk_at dksX5_open_1 18 rfl rfl)
theorem dX5_open_45 : decode cX5_open 45 = .ok (.aload_n 0, 1) := dk_42 (dk_at dksX5_open_1 21 rfl rfl)
theorem dX5_open_46 : decode cX5_open 46 = .ok (.getfield 27, 3) := dk_180 0 27 (dk_at dksX5_open_2 0 rfl rfl)
theorem dX5_open_49 : decode cX5_open 49 = .ok (.ireturn, 1) := dk_172 (dk_at dksX5_open_2 3 rfl rfl)
abbrev cX5_opened : ByteArray := prog_3_method_8_code
def yX5_opened : MethodName := ⟨RX5, "opened", "(I)I"⟩
def dkwX5_opened_1 : List UInt8 := [51, 17, 0, 255, 126, 172]
abbrev dktX5_opened_1 : List UInt8 := dkwX5_opened_1 ++ []
def dkwX5_opened_0 : List UInt8 := [42, 180, 0, 27, 154, 0, 7, 2, 167, 0, 21, 42, 180, 0, 16, 27, 18, 26, 126, 42, 180, 0, 27, 112]
abbrev dktX5_opened_0 : List UInt8 := dkwX5_opened_0 ++ dktX5_opened_1
theorem dksX5_opened_0 : cX5_opened.data.toList.drop 0 = dktX5_opened_0 := by decide +kernel
theorem dksX5_opened_1 : cX5_opened.data.toList.drop 24 = dktX5_opened_1 := dk_seg dksX5_opened_0 24 rfl rfl
theorem dX5_opened_0 : decode cX5_opened 0 = .ok (.aload_n 0, 1) := dk_42 (dk_at dksX5_opened_0 0 rfl rfl)
theorem dX5_opened_1 : decode cX5_opened 1 = .ok (.getfield 27, 3) := dk_180 0 27 (dk_at dksX5_opened_0 1 rfl rfl)
theorem dX5_opened_4 : decode cX5_opened 4 = .ok (.ifCond .ne 7, 3) := dk_154 0 7 (dk_at dksX5_opened_0 4 rfl rfl)
theorem dX5_opened_7 : decode cX5_opened 7 = .ok (.iconst (-1), 1) := dk_2 (dk_at dksX5_opened_0 7 rfl rfl)
theorem dX5_opened_8 : decode cX5_opened 8 = .ok (.goto 21, 3) := dk_167 0 21 (dk_at dksX5_opened_0 8 rfl rfl)
theorem dX5_opened_11 : decode cX5_opened 11 = .ok (.aload_n 0, 1) := dk_42 (dk_at dksX5_opened_0 11 rfl rfl)
theorem dX5_opened_12 : decode cX5_opened 12 = .ok (.getfield 16, 3) := dk_180 0 16 (dk_at dksX5_opened_0 12 rfl rfl)
theorem dX5_opened_15 : decode cX5_opened 15 = .ok (.iload_n 1, 1) := dk_27 (dk_at dksX5_opened_0 15 rfl rfl)
theorem dX5_opened_16 : decode cX5_opened 16 = .ok (.ldc 26, 2) := dk_18 26 (dk_at dksX5_opened_0 16 rfl rfl)
theorem dX5_opened_18 : decode cX5_opened 18 = .ok (.iand, 1) := dk_126 (dk_at dksX5_opened_0 18 rfl rfl)
theorem dX5_opened_19 : decode cX5_opened 19 = .ok (.aload_n 0, 1) := dk_42 (dk_at dksX5_opened_0 19 rfl rfl)
theorem dX5_opened_20 : decode cX5_opened 20 = .ok (.getfield 27, 3) := dk_180 0 27 (dk_at dksX5_opened_0 20 rfl rfl)
theorem dX5_opened_23 : decode cX5_opened 23 = .ok (.irem, 1) := dk_112 (dk_at dksX5_opened_0 23 rfl rfl)
theorem dX5_opened_24 : decode cX5_opened 24 = .ok (.baload, 1) := dk_51 (dk_at dksX5_opened_1 0 rfl rfl)
theorem dX5_opened_25 : decode cX5_opened 25 = .ok (.sipush 255, 3) := dk_17 0 255 (dk_at dksX5_opened_1 1 rfl rfl)
theorem dX5_opened_28 : decode cX5_opened 28 = .ok (.iand, 1) := dk_126 (dk_at dksX5_opened_1 4 rfl rfl)
theorem dX5_opened_29 : decode cX5_opened 29 = .ok (.ireturn, 1) := dk_172 (dk_at dksX5_opened_1 5 rfl rfl)
abbrev cX5_size : ByteArray := prog_3_method_9_code
def yX5_size : MethodName := ⟨RX5, "size", "()I"⟩
theorem dX5_size_0 : decode cX5_size 0 = .ok (.aload_n 0, 1) := by decide +kernel
theorem dX5_size_1 : decode cX5_size 1 = .ok (.getfield 23, 3) := by decide +kernel
theorem dX5_size_4 : decode cX5_size 4 = .ok (.ireturn, 1) := by decide +kernel
theorem q8 : (Jvm.Cond.initialized "BlockPackerModel") ∈ lw_all := lw_g (lw_at lw_m1 6 rfl) rfl
theorem q621 : (Jvm.Cond.instantiable "BlockPackerModel" (6 : Nat)) ∈ lw_all := lw_g (lw_at lw_m3 139 rfl) rfl
theorem q623 : (Jvm.Cond.instanceMethod ({ cls := "BlockPackerModel", name := "<init>", desc := "()V" } : Jvm.MethodName)) ∈ lw_all := lw_g (lw_at lw_m3 141 rfl) rfl
theorem q624 : (Jvm.Cond.code ({ cls := "BlockPackerModel", name := "<init>", desc := "()V" } : Jvm.MethodName) prog_3_method_1_code (1 : Nat) (Option.none : Option Jvm.ClassFile.FieldType)) ∈ lw_all := lw_g (lw_at lw_m3 142 rfl) rfl
theorem q625 : (Jvm.Cond.methodLink "BlockPackerModel" (1 : Nat) ({ cls := "java/lang/Object", name := "<init>", desc := "()V" } : Jvm.MethodName)) ∈ lw_all := lw_g (lw_at lw_m3 143 rfl) rfl
theorem q626 : (Jvm.Cond.fieldLink "BlockPackerModel" (7 : Nat) "BlockPackerModel" "text" "[B") ∈ lw_all := lw_g (lw_at lw_m3 144 rfl) rfl
theorem q627 : (Jvm.Cond.fieldLink "BlockPackerModel" (13 : Nat) "BlockPackerModel" "kept" "[B") ∈ lw_all := lw_g (lw_at lw_m3 145 rfl) rfl
theorem q628 : (Jvm.Cond.fieldLink "BlockPackerModel" (16 : Nat) "BlockPackerModel" "shown" "[B") ∈ lw_all := lw_g (lw_at lw_m3 146 rfl) rfl
theorem q629 : (Jvm.Cond.fieldLink "BlockPackerModel" (23 : Nat) "BlockPackerModel" "size" "I") ∈ lw_all := lw_g (lw_at lw_m3 147 rfl) rfl
theorem q630 : (Jvm.Cond.fieldLink "BlockPackerModel" (19 : Nat) "BlockPackerModel" "length" "I") ∈ lw_all := lw_g (lw_at lw_m3 148 rfl) rfl
theorem q631 : (Jvm.Cond.fieldLink "BlockPackerModel" (27 : Nat) "BlockPackerModel" "back" "I") ∈ lw_all := lw_g (lw_at lw_m3 149 rfl) rfl
theorem q632 : (Jvm.Cond.laysFinal "BlockPackerModel" "BlockPackerModel" "text" "[B") ∈ lw_all := lw_g (lw_at lw_m3 150 rfl) rfl
theorem q633 : (Jvm.Cond.soleField "BlockPackerModel" "text") ∈ lw_all := lw_g (lw_at lw_m3 151 rfl) rfl
theorem q634 : (Jvm.Cond.laysFinal "BlockPackerModel" "BlockPackerModel" "kept" "[B") ∈ lw_all := lw_g (lw_at lw_m3 152 rfl) rfl
theorem q635 : (Jvm.Cond.soleField "BlockPackerModel" "kept") ∈ lw_all := lw_g (lw_at lw_m3 153 rfl) rfl
theorem q636 : (Jvm.Cond.laysFinal "BlockPackerModel" "BlockPackerModel" "shown" "[B") ∈ lw_all := lw_g (lw_at lw_m3 154 rfl) rfl
theorem q637 : (Jvm.Cond.soleField "BlockPackerModel" "shown") ∈ lw_all := lw_g (lw_at lw_m3 155 rfl) rfl
theorem q638 : (Jvm.Cond.lays "BlockPackerModel" "BlockPackerModel" "size" "I") ∈ lw_all := lw_g (lw_at lw_m3 156 rfl) rfl
theorem q639 : (Jvm.Cond.soleField "BlockPackerModel" "size") ∈ lw_all := lw_g (lw_at lw_m3 157 rfl) rfl
theorem q640 : (Jvm.Cond.lays "BlockPackerModel" "BlockPackerModel" "length" "I") ∈ lw_all := lw_g (lw_at lw_m3 158 rfl) rfl
theorem q641 : (Jvm.Cond.soleField "BlockPackerModel" "length") ∈ lw_all := lw_g (lw_at lw_m3 159 rfl) rfl
theorem q642 : (Jvm.Cond.lays "BlockPackerModel" "BlockPackerModel" "back" "I") ∈ lw_all := lw_g (lw_at lw_m3 160 rfl) rfl
theorem q643 : (Jvm.Cond.soleField "BlockPackerModel" "back") ∈ lw_all := lw_g (lw_at lw_m3 161 rfl) rfl
theorem q644 : (Jvm.Cond.superclass "BlockPackerModel" "java/lang/Object") ∈ lw_all := lw_g (lw_at lw_m3 162 rfl) rfl
theorem q646 : (Jvm.Cond.instanceMethod ({ cls := "BlockPackerModel", name := "put", desc := "(IIII)Z" } : Jvm.MethodName)) ∈ lw_all := lw_g (lw_at lw_m3 164 rfl) rfl
theorem q647 : (Jvm.Cond.selects "BlockPackerModel" ({ cls := "BlockPackerModel", name := "put", desc := "(IIII)Z" } : Jvm.MethodName) ({ cls := "BlockPackerModel", name := "put", desc := "(IIII)Z" } : Jvm.MethodName)) ∈ lw_all := lw_g (lw_at lw_m3 165 rfl) rfl
theorem q648 : (Jvm.Cond.code ({ cls := "BlockPackerModel", name := "put", desc := "(IIII)Z" } : Jvm.MethodName) prog_3_method_2_code (7 : Nat) (Option.some Jvm.ClassFile.FieldType.boolean)) ∈ lw_all := lw_g (lw_at lw_m3 166 rfl) rfl
theorem q650 : (Jvm.Cond.instanceMethod ({ cls := "BlockPackerModel", name := "repeat", desc := "(II)I" } : Jvm.MethodName)) ∈ lw_all := lw_g (lw_at lw_m3 168 rfl) rfl
theorem q651 : (Jvm.Cond.selects "BlockPackerModel" ({ cls := "BlockPackerModel", name := "repeat", desc := "(II)I" } : Jvm.MethodName) ({ cls := "BlockPackerModel", name := "repeat", desc := "(II)I" } : Jvm.MethodName)) ∈ lw_all := lw_g (lw_at lw_m3 169 rfl) rfl
theorem q652 : (Jvm.Cond.code ({ cls := "BlockPackerModel", name := "repeat", desc := "(II)I" } : Jvm.MethodName) prog_3_method_3_code (6 : Nat) (Option.some Jvm.ClassFile.FieldType.int)) ∈ lw_all := lw_g (lw_at lw_m3 170 rfl) rfl
theorem q653 : (Jvm.Cond.constant "BlockPackerModel" (26 : Nat) (2147483647 : Int32)) ∈ lw_all := lw_g (lw_at lw_m3 171 rfl) rfl
theorem q655 : (Jvm.Cond.instanceMethod ({ cls := "BlockPackerModel", name := "fill", desc := "(II)I" } : Jvm.MethodName)) ∈ lw_all := lw_g (lw_at lw_m3 173 rfl) rfl
theorem q656 : (Jvm.Cond.selects "BlockPackerModel" ({ cls := "BlockPackerModel", name := "fill", desc := "(II)I" } : Jvm.MethodName) ({ cls := "BlockPackerModel", name := "fill", desc := "(II)I" } : Jvm.MethodName)) ∈ lw_all := lw_g (lw_at lw_m3 174 rfl) rfl
theorem q657 : (Jvm.Cond.code ({ cls := "BlockPackerModel", name := "fill", desc := "(II)I" } : Jvm.MethodName) prog_3_method_4_code (5 : Nat) (Option.some Jvm.ClassFile.FieldType.int)) ∈ lw_all := lw_g (lw_at lw_m3 175 rfl) rfl
theorem q659 : (Jvm.Cond.instanceMethod ({ cls := "BlockPackerModel", name := "trim", desc := "(I)V" } : Jvm.MethodName)) ∈ lw_all := lw_g (lw_at lw_m3 177 rfl) rfl
theorem q660 : (Jvm.Cond.selects "BlockPackerModel" ({ cls := "BlockPackerModel", name := "trim", desc := "(I)V" } : Jvm.MethodName) ({ cls := "BlockPackerModel", name := "trim", desc := "(I)V" } : Jvm.MethodName)) ∈ lw_all := lw_g (lw_at lw_m3 178 rfl) rfl
theorem q661 : (Jvm.Cond.code ({ cls := "BlockPackerModel", name := "trim", desc := "(I)V" } : Jvm.MethodName) prog_3_method_5_code (2 : Nat) (Option.none : Option Jvm.ClassFile.FieldType)) ∈ lw_all := lw_g (lw_at lw_m3 179 rfl) rfl
theorem q663 : (Jvm.Cond.instanceMethod ({ cls := "BlockPackerModel", name := "pack", desc := "()Z" } : Jvm.MethodName)) ∈ lw_all := lw_g (lw_at lw_m3 181 rfl) rfl
theorem q664 : (Jvm.Cond.selects "BlockPackerModel" ({ cls := "BlockPackerModel", name := "pack", desc := "()Z" } : Jvm.MethodName) ({ cls := "BlockPackerModel", name := "pack", desc := "()Z" } : Jvm.MethodName)) ∈ lw_all := lw_g (lw_at lw_m3 182 rfl) rfl
theorem q665 : (Jvm.Cond.code ({ cls := "BlockPackerModel", name := "pack", desc := "()Z" } : Jvm.MethodName) prog_3_method_6_code (2 : Nat) (Option.some Jvm.ClassFile.FieldType.boolean)) ∈ lw_all := lw_g (lw_at lw_m3 183 rfl) rfl
theorem q667 : (Jvm.Cond.instanceMethod ({ cls := "BlockPackerModel", name := "open", desc := "()I" } : Jvm.MethodName)) ∈ lw_all := lw_g (lw_at lw_m3 185 rfl) rfl
theorem q668 : (Jvm.Cond.selects "BlockPackerModel" ({ cls := "BlockPackerModel", name := "open", desc := "()I" } : Jvm.MethodName) ({ cls := "BlockPackerModel", name := "open", desc := "()I" } : Jvm.MethodName)) ∈ lw_all := lw_g (lw_at lw_m3 186 rfl) rfl
theorem q669 : (Jvm.Cond.code ({ cls := "BlockPackerModel", name := "open", desc := "()I" } : Jvm.MethodName) prog_3_method_7_code (2 : Nat) (Option.some Jvm.ClassFile.FieldType.int)) ∈ lw_all := lw_g (lw_at lw_m3 187 rfl) rfl
theorem q671 : (Jvm.Cond.instanceMethod ({ cls := "BlockPackerModel", name := "opened", desc := "(I)I" } : Jvm.MethodName)) ∈ lw_all := lw_g (lw_at lw_m3 189 rfl) rfl
theorem q672 : (Jvm.Cond.selects "BlockPackerModel" ({ cls := "BlockPackerModel", name := "opened", desc := "(I)I" } : Jvm.MethodName) ({ cls := "BlockPackerModel", name := "opened", desc := "(I)I" } : Jvm.MethodName)) ∈ lw_all := lw_g (lw_at lw_m3 190 rfl) rfl
theorem q673 : (Jvm.Cond.code ({ cls := "BlockPackerModel", name := "opened", desc := "(I)I" } : Jvm.MethodName) prog_3_method_8_code (2 : Nat) (Option.some Jvm.ClassFile.FieldType.int)) ∈ lw_all := lw_g (lw_at lw_m3 191 rfl) rfl
theorem q675 : (Jvm.Cond.instanceMethod ({ cls := "BlockPackerModel", name := "size", desc := "()I" } : Jvm.MethodName)) ∈ lw_all := lw_g (lw_at lw_m3 193 rfl) rfl
theorem q676 : (Jvm.Cond.selects "BlockPackerModel" ({ cls := "BlockPackerModel", name := "size", desc := "()I" } : Jvm.MethodName) ({ cls := "BlockPackerModel", name := "size", desc := "()I" } : Jvm.MethodName)) ∈ lw_all := lw_g (lw_at lw_m3 194 rfl) rfl
theorem q677 : (Jvm.Cond.code ({ cls := "BlockPackerModel", name := "size", desc := "()I" } : Jvm.MethodName) prog_3_method_9_code (1 : Nat) (Option.some Jvm.ClassFile.FieldType.int)) ∈ lw_all := lw_g (lw_at lw_m3 195 rfl) rfl
theorem in_X5 : ∀ w ∈ wsX50, w ∈ lw_all := lw_in wsX50 [632, 634, 636, 638, 640, 642] (by decide +kernel) (by decide +kernel)
/-! the law's own entry -/
set_option maxRecDepth 100000
abbrev cL_law : ByteArray := code
def dkwL_law_11 : List UInt8 := [182, 0, 47, 44, 182, 0, 50, 159, 0, 5, 3, 172, 132, 3, 6, 167, 254, 245, 4, 172]
abbrev dktL_law_11 : List UInt8 := dkwL_law_11 ++ []
def dkwL_law_10 : List UInt8 := [29, 4, 96, 46, 182, 0, 42, 44, 42, 29, 4, 96, 46, 182, 0, 46, 159, 0, 18, 3, 172, 43]
abbrev dktL_law_10 : List UInt8 := dkwL_law_10 ++ dktL_law_11
def dkwL_law_9 : List UInt8 := [44, 182, 0, 36, 159, 0, 54, 3, 172, 43, 182, 0, 37, 44, 182, 0, 41, 159, 0, 41, 3, 172, 43, 42]
abbrev dktL_law_9 : List UInt8 := dkwL_law_9 ++ dktL_law_10
def dkwL_law_8 : List UInt8 := [42, 29, 4, 96, 46, 182, 0, 27, 44, 42, 29, 4, 96, 46, 182, 0, 31, 167, 0, 65, 43, 182, 0, 32]
abbrev dktL_law_8 : List UInt8 := dkwL_law_8 ++ dktL_law_9
def dkwL_law_7 : List UInt8 := [46, 182, 0, 23, 44, 42, 29, 4, 96, 46, 42, 29, 5, 96, 46, 182, 0, 26, 159, 0, 88, 3, 172, 43]
abbrev dktL_law_7 : List UInt8 := dkwL_law_7 ++ dktL_law_8
def dkwL_law_6 : List UInt8 := [46, 42, 29, 5, 96, 46, 182, 0, 22, 159, 0, 121, 3, 172, 43, 42, 29, 4, 96, 46, 42, 29, 5, 96]
abbrev dktL_law_6 : List UInt8 := dkwL_law_6 ++ dktL_law_7
def dkwL_law_5 : List UInt8 := [159, 0, 154, 3, 172, 43, 42, 29, 4, 96, 46, 42, 29, 5, 96, 46, 182, 0, 18, 44, 42, 29, 4, 96]
abbrev dktL_law_5 : List UInt8 := dkwL_law_5 ++ dktL_law_6
def dkwL_law_4 : List UInt8 := [44, 42, 29, 4, 96, 46, 42, 29, 5, 96, 46, 42, 29, 6, 96, 46, 42, 29, 7, 96, 46, 182, 0, 17]
abbrev dktL_law_4 : List UInt8 := dkwL_law_4 ++ dktL_law_5
def dkwL_law_3 : List UInt8 := [43, 42, 29, 4, 96, 46, 42, 29, 5, 96, 46, 42, 29, 6, 96, 46, 42, 29, 7, 96, 46, 182, 0, 13]
abbrev dktL_law_3 : List UInt8 := dkwL_law_3 ++ dktL_law_4
def dkwL_law_2 : List UInt8 := [170, 0, 0, 0, 0, 0, 249, 0, 0, 0, 0, 0, 0, 0, 7, 0, 0, 0, 47, 0, 0, 0, 100, 0, 0, 0, 133, 0, 0, 0, 166, 0, 0, 0, 187, 0, 0, 0, 200, 0, 0, 0, 213, 0, 0, 0, 236]
abbrev dktL_law_2 : List UInt8 := dkwL_law_2 ++ dktL_law_3
def dkwL_law_1 : List UInt8 := [163, 1, 8, 42, 29, 46, 16, 15, 126]
abbrev dktL_law_1 : List UInt8 := dkwL_law_1 ++ dktL_law_2
def dkwL_law_0 : List UInt8 := [187, 0, 7, 89, 183, 0, 9, 76, 187, 0, 10, 89, 183, 0, 12, 77, 3, 62, 29, 42, 190, 16, 6, 100]
abbrev dktL_law_0 : List UInt8 := dkwL_law_0 ++ dktL_law_1
theorem dksL_law_0 : cL_law.data.toList.drop 0 = dktL_law_0 := by decide +kernel
theorem dksL_law_1 : cL_law.data.toList.drop 24 = dktL_law_1 := dk_seg dksL_law_0 24 rfl rfl
theorem dksL_law_2 : cL_law.data.toList.drop 33 = dktL_law_2 := dk_seg dksL_law_1 9 rfl rfl
theorem dksL_law_3 : cL_law.data.toList.drop 80 = dktL_law_3 := dk_seg dksL_law_2 47 rfl rfl
theorem dksL_law_4 : cL_law.data.toList.drop 104 = dktL_law_4 := dk_seg dksL_law_3 24 rfl rfl
theorem dksL_law_5 : cL_law.data.toList.drop 128 = dktL_law_5 := dk_seg dksL_law_4 24 rfl rfl
theorem dksL_law_6 : cL_law.data.toList.drop 152 = dktL_law_6 := dk_seg dksL_law_5 24 rfl rfl
theorem dksL_law_7 : cL_law.data.toList.drop 176 = dktL_law_7 := dk_seg dksL_law_6 24 rfl rfl
theorem dksL_law_8 : cL_law.data.toList.drop 200 = dktL_law_8 := dk_seg dksL_law_7 24 rfl rfl
theorem dksL_law_9 : cL_law.data.toList.drop 224 = dktL_law_9 := dk_seg dksL_law_8 24 rfl rfl
theorem dksL_law_10 : cL_law.data.toList.drop 248 = dktL_law_10 := dk_seg dksL_law_9 24 rfl rfl
theorem dksL_law_11 : cL_law.data.toList.drop 270 = dktL_law_11 := dk_seg dksL_law_10 22 rfl rfl
theorem dL_law_0 : decode cL_law 0 = .ok (.new 7, 3) := dk_187 0 7 (dk_at dksL_law_0 0 rfl rfl)
theorem dL_law_3 : decode cL_law 3 = .ok (.dup, 1) := dk_89 (dk_at dksL_law_0 3 rfl rfl)
theorem dL_law_4 : decode cL_law 4 = .ok (.invokespecial 9, 3) := dk_183 0 9 (dk_at dksL_law_0 4 rfl rfl)
theorem dL_law_7 : decode cL_law 7 = .ok (.astore_n 1, 1) := dk_76 (dk_at dksL_law_0 7 rfl rfl)
theorem dL_law_8 : decode cL_law 8 = .ok (.new 10, 3) := dk_187 0 10 (dk_at dksL_law_0 8 rfl rfl)
theorem dL_law_11 : decode cL_law 11 = .ok (.dup, 1) := dk_89 (dk_at dksL_law_0 11 rfl rfl)
theorem dL_law_12 : decode cL_law 12 = .ok (.invokespecial 12, 3) := dk_183 0 12 (dk_at dksL_law_0 12 rfl rfl)
theorem dL_law_15 : decode cL_law 15 = .ok (.astore_n 2, 1) := dk_77 (dk_at dksL_law_0 15 rfl rfl)
theorem dL_law_16 : decode cL_law 16 = .ok (.iconst 0, 1) := dk_3 (dk_at dksL_law_0 16 rfl rfl)
theorem dL_law_17 : decode cL_law 17 = .ok (.istore_n 3, 1) := dk_62 (dk_at dksL_law_0 17 rfl rfl)
theorem dL_law_18 : decode cL_law 18 = .ok (.iload_n 3, 1) := dk_29 (dk_at dksL_law_0 18 rfl rfl)
theorem dL_law_19 : decode cL_law 19 = .ok (.aload_n 0, 1) := dk_42 (dk_at dksL_law_0 19 rfl rfl)
theorem dL_law_20 : decode cL_law 20 = .ok (.arraylength, 1) := dk_190 (dk_at dksL_law_0 20 rfl rfl)
theorem dL_law_21 : decode cL_law 21 = .ok (.bipush 6, 2) := dk_16 6 (dk_at dksL_law_0 21 rfl rfl)
theorem dL_law_23 : decode cL_law 23 = .ok (.isub, 1) := dk_100 (dk_at dksL_law_0 23 rfl rfl)
theorem dL_law_24 : decode cL_law 24 = .ok (.if_icmp .gt 264, 3) := dk_163 1 8 (dk_at dksL_law_1 0 rfl rfl)
theorem dL_law_27 : decode cL_law 27 = .ok (.aload_n 0, 1) := dk_42 (dk_at dksL_law_1 3 rfl rfl)
theorem dL_law_28 : decode cL_law 28 = .ok (.iload_n 3, 1) := dk_29 (dk_at dksL_law_1 4 rfl rfl)
theorem dL_law_29 : decode cL_law 29 = .ok (.iaload, 1) := dk_46 (dk_at dksL_law_1 5 rfl rfl)
theorem dL_law_30 : decode cL_law 30 = .ok (.bipush 15, 2) := dk_16 15 (dk_at dksL_law_1 6 rfl rfl)
theorem dL_law_32 : decode cL_law 32 = .ok (.iand, 1) := dk_126 (dk_at dksL_law_1 8 rfl rfl)
theorem dL_law_33 : decode cL_law 33 = .ok (.tableswitch 249 0 7 #[47, 100, 133, 166, 187, 200, 213, 236], 47) := by decide +kernel
theorem dL_law_80 : decode cL_law 80 = .ok (.aload_n 1, 1) := dk_43 (dk_at dksL_law_3 0 rfl rfl)
theorem dL_law_81 : decode cL_law 81 = .ok (.aload_n 0, 1) := dk_42 (dk_at dksL_law_3 1 rfl rfl)
theorem dL_law_82 : decode cL_law 82 = .ok (.iload_n 3, 1) := dk_29 (dk_at dksL_law_3 2 rfl rfl)
theorem dL_law_83 : decode cL_law 83 = .ok (.iconst 1, 1) := dk_4 (dk_at dksL_law_3 3 rfl rfl)
theorem dL_law_84 : decode cL_law 84 = .ok (.iadd, 1) := dk_96 (dk_at dksL_law_3 4 rfl rfl)
theorem dL_law_85 : decode cL_law 85 = .ok (.iaload, 1) := dk_46 (dk_at dksL_law_3 5 rfl rfl)
theorem dL_law_86 : decode cL_law 86 = .ok (.aload_n 0, 1) := dk_42 (dk_at dksL_law_3 6 rfl rfl)
theorem dL_law_87 : decode cL_law 87 = .ok (.iload_n 3, 1) := dk_29 (dk_at dksL_law_3 7 rfl rfl)
theorem dL_law_88 : decode cL_law 88 = .ok (.iconst 2, 1) := dk_5 (dk_at dksL_law_3 8 rfl rfl)
theorem dL_law_89 : decode cL_law 89 = .ok (.iadd, 1) := dk_96 (dk_at dksL_law_3 9 rfl rfl)
theorem dL_law_90 : decode cL_law 90 = .ok (.iaload, 1) := dk_46 (dk_at dksL_law_3 10 rfl rfl)
theorem dL_law_91 : decode cL_law 91 = .ok (.aload_n 0, 1) := dk_42 (dk_at dksL_law_3 11 rfl rfl)
theorem dL_law_92 : decode cL_law 92 = .ok (.iload_n 3, 1) := dk_29 (dk_at dksL_law_3 12 rfl rfl)
theorem dL_law_93 : decode cL_law 93 = .ok (.iconst 3, 1) := dk_6 (dk_at dksL_law_3 13 rfl rfl)
theorem dL_law_94 : decode cL_law 94 = .ok (.iadd, 1) := dk_96 (dk_at dksL_law_3 14 rfl rfl)
theorem dL_law_95 : decode cL_law 95 = .ok (.iaload, 1) := dk_46 (dk_at dksL_law_3 15 rfl rfl)
theorem dL_law_96 : decode cL_law 96 = .ok (.aload_n 0, 1) := dk_42 (dk_at dksL_law_3 16 rfl rfl)
theorem dL_law_97 : decode cL_law 97 = .ok (.iload_n 3, 1) := dk_29 (dk_at dksL_law_3 17 rfl rfl)
theorem dL_law_98 : decode cL_law 98 = .ok (.iconst 4, 1) := dk_7 (dk_at dksL_law_3 18 rfl rfl)
theorem dL_law_99 : decode cL_law 99 = .ok (.iadd, 1) := dk_96 (dk_at dksL_law_3 19 rfl rfl)
theorem dL_law_100 : decode cL_law 100 = .ok (.iaload, 1) := dk_46 (dk_at dksL_law_3 20 rfl rfl)
theorem dL_law_101 : decode cL_law 101 = .ok (.invokevirtual 13, 3) := dk_182 0 13 (dk_at dksL_law_3 21 rfl rfl)
theorem dL_law_104 : decode cL_law 104 = .ok (.aload_n 2, 1) := dk_44 (dk_at dksL_law_4 0 rfl rfl)
theorem dL_law_105 : decode cL_law 105 = .ok (.aload_n 0, 1) := dk_42 (dk_at dksL_law_4 1 rfl rfl)
theorem dL_law_106 : decode cL_law 106 = .ok (.iload_n 3, 1) := dk_29 (dk_at dksL_law_4 2 rfl rfl)
theorem dL_law_107 : decode cL_law 107 = .ok (.iconst 1, 1) := dk_4 (dk_at dksL_law_4 3 rfl rfl)
theorem dL_law_108 : decode cL_law 108 = .ok (.iadd, 1) := dk_96 (dk_at dksL_law_4 4 rfl rfl)
theorem dL_law_109 : decode cL_law 109 = .ok (.iaload, 1) := dk_46 (dk_at dksL_law_4 5 rfl rfl)
theorem dL_law_110 : decode cL_law 110 = .ok (.aload_n 0, 1) := dk_42 (dk_at dksL_law_4 6 rfl rfl)
theorem dL_law_111 : decode cL_law 111 = .ok (.iload_n 3, 1) := dk_29 (dk_at dksL_law_4 7 rfl rfl)
theorem dL_law_112 : decode cL_law 112 = .ok (.iconst 2, 1) := dk_5 (dk_at dksL_law_4 8 rfl rfl)
theorem dL_law_113 : decode cL_law 113 = .ok (.iadd, 1) := dk_96 (dk_at dksL_law_4 9 rfl rfl)
theorem dL_law_114 : decode cL_law 114 = .ok (.iaload, 1) := dk_46 (dk_at dksL_law_4 10 rfl rfl)
theorem dL_law_115 : decode cL_law 115 = .ok (.aload_n 0, 1) := dk_42 (dk_at dksL_law_4 11 rfl rfl)
theorem dL_law_116 : decode cL_law 116 = .ok (.iload_n 3, 1) := dk_29 (dk_at dksL_law_4 12 rfl rfl)
theorem dL_law_117 : decode cL_law 117 = .ok (.iconst 3, 1) := dk_6 (dk_at dksL_law_4 13 rfl rfl)
theorem dL_law_118 : decode cL_law 118 = .ok (.iadd, 1) := dk_96 (dk_at dksL_law_4 14 rfl rfl)
theorem dL_law_119 : decode cL_law 119 = .ok (.iaload, 1) := dk_46 (dk_at dksL_law_4 15 rfl rfl)
theorem dL_law_120 : decode cL_law 120 = .ok (.aload_n 0, 1) := dk_42 (dk_at dksL_law_4 16 rfl rfl)
theorem dL_law_121 : decode cL_law 121 = .ok (.iload_n 3, 1) := dk_29 (dk_at dksL_law_4 17 rfl rfl)
theorem dL_law_122 : decode cL_law 122 = .ok (.iconst 4, 1) := dk_7 (dk_at dksL_law_4 18 rfl rfl)
theorem dL_law_123 : decode cL_law 123 = .ok (.iadd, 1) := dk_96 (dk_at dksL_law_4 19 rfl rfl)
theorem dL_law_124 : decode cL_law 124 = .ok (.iaload, 1) := dk_46 (dk_at dksL_law_4 20 rfl rfl)
theorem dL_law_125 : decode cL_law 125 = .ok (.invokevirtual 17, 3) := dk_182 0 17 (dk_at dksL_law_4 21 rfl rfl)
theorem dL_law_128 : decode cL_law 128 = .ok (.if_icmp .eq 154, 3) := dk_159 0 154 (dk_at dksL_law_5 0 rfl rfl)
theorem dL_law_131 : decode cL_law 131 = .ok (.iconst 0, 1) := dk_3 (dk_at dksL_law_5 3 rfl rfl)
theorem dL_law_132 : decode cL_law 132 = .ok (.ireturn, 1) := dk_172 (dk_at dksL_law_5 4 rfl rfl)
theorem dL_law_133 : decode cL_law 133 = .ok (.aload_n 1, 1) := dk_43 (dk_at dksL_law_5 5 rfl rfl)
theorem dL_law_134 : decode cL_law 134 = .ok (.aload_n 0, 1) := dk_42 (dk_at dksL_law_5 6 rfl rfl)
theorem dL_law_135 : decode cL_law 135 = .ok (.iload_n 3, 1) := dk_29 (dk_at dksL_law_5 7 rfl rfl)
theorem dL_law_136 : decode cL_law 136 = .ok (.iconst 1, 1) := dk_4 (dk_at dksL_law_5 8 rfl rfl)
theorem dL_law_137 : decode cL_law 137 = .ok (.iadd, 1) := dk_96 (dk_at dksL_law_5 9 rfl rfl)
theorem dL_law_138 : decode cL_law 138 = .ok (.iaload, 1) := dk_46 (dk_at dksL_law_5 10 rfl rfl)
theorem dL_law_139 : decode cL_law 139 = .ok (.aload_n 0, 1) := dk_42 (dk_at dksL_law_5 11 rfl rfl)
theorem dL_law_140 : decode cL_law 140 = .ok (.iload_n 3, 1) := dk_29 (dk_at dksL_law_5 12 rfl rfl)
theorem dL_law_141 : decode cL_law 141 = .ok (.iconst 2, 1) := dk_5 (dk_at dksL_law_5 13 rfl rfl)
theorem dL_law_142 : decode cL_law 142 = .ok (.iadd, 1) := dk_96 (dk_at dksL_law_5 14 rfl rfl)
theorem dL_law_143 : decode cL_law 143 = .ok (.iaload, 1) := dk_46 (dk_at dksL_law_5 15 rfl rfl)
theorem dL_law_144 : decode cL_law 144 = .ok (.invokevirtual 18, 3) := dk_182 0 18 (dk_at dksL_law_5 16 rfl rfl)
theorem dL_law_147 : decode cL_law 147 = .ok (.aload_n 2, 1) := dk_44 (dk_at dksL_law_5 19 rfl rfl)
theorem dL_law_148 : decode cL_law 148 = .ok (.aload_n 0, 1) := dk_42 (dk_at dksL_law_5 20 rfl rfl)
theorem dL_law_149 : decode cL_law 149 = .ok (.iload_n 3, 1) := dk_29 (dk_at dksL_law_5 21 rfl rfl)
theorem dL_law_150 : decode cL_law 150 = .ok (.iconst 1, 1) := dk_4 (dk_at dksL_law_5 22 rfl rfl)
theorem dL_law_151 : decode cL_law 151 = .ok (.iadd, 1) := dk_96 (dk_at dksL_law_5 23 rfl rfl)
theorem dL_law_152 : decode cL_law 152 = .ok (.iaload, 1) := dk_46 (dk_at dksL_law_6 0 rfl rfl)
theorem dL_law_153 : decode cL_law 153 = .ok (.aload_n 0, 1) := dk_42 (dk_at dksL_law_6 1 rfl rfl)
theorem dL_law_154 : decode cL_law 154 = .ok (.iload_n 3, 1) := dk_29 (dk_at dksL_law_6 2 rfl rfl)
theorem dL_law_155 : decode cL_law 155 = .ok (.iconst 2, 1) := dk_5 (dk_at dksL_law_6 3 rfl rfl)
theorem dL_law_156 : decode cL_law 156 = .ok (.iadd, 1) := dk_96 (dk_at dksL_law_6 4 rfl rfl)
theorem dL_law_157 : decode cL_law 157 = .ok (.iaload, 1) := dk_46 (dk_at dksL_law_6 5 rfl rfl)
theorem dL_law_158 : decode cL_law 158 = .ok (.invokevirtual 22, 3) := dk_182 0 22 (dk_at dksL_law_6 6 rfl rfl)
theorem dL_law_161 : decode cL_law 161 = .ok (.if_icmp .eq 121, 3) := dk_159 0 121 (dk_at dksL_law_6 9 rfl rfl)
theorem dL_law_164 : decode cL_law 164 = .ok (.iconst 0, 1) := dk_3 (dk_at dksL_law_6 12 rfl rfl)
theorem dL_law_165 : decode cL_law 165 = .ok (.ireturn, 1) := dk_172 (dk_at dksL_law_6 13 rfl rfl)
theorem dL_law_166 : decode cL_law 166 = .ok (.aload_n 1, 1) := dk_43 (dk_at dksL_law_6 14 rfl rfl)
theorem dL_law_167 : decode cL_law 167 = .ok (.aload_n 0, 1) := dk_42 (dk_at dksL_law_6 15 rfl rfl)
theorem dL_law_168 : decode cL_law 168 = .ok (.iload_n 3, 1) := dk_29 (dk_at dksL_law_6 16 rfl rfl)
theorem dL_law_169 : decode cL_law 169 = .ok (.iconst 1, 1) := dk_4 (dk_at dksL_law_6 17 rfl rfl)
theorem dL_law_170 : decode cL_law 170 = .ok (.iadd, 1) := dk_96 (dk_at dksL_law_6 18 rfl rfl)
theorem dL_law_171 : decode cL_law 171 = .ok (.iaload, 1) := dk_46 (dk_at dksL_law_6 19 rfl rfl)
theorem dL_law_172 : decode cL_law 172 = .ok (.aload_n 0, 1) := dk_42 (dk_at dksL_law_6 20 rfl rfl)
theorem dL_law_173 : decode cL_law 173 = .ok (.iload_n 3, 1) := dk_29 (dk_at dksL_law_6 21 rfl rfl)
theorem dL_law_174 : decode cL_law 174 = .ok (.iconst 2, 1) := dk_5 (dk_at dksL_law_6 22 rfl rfl)
theorem dL_law_175 : decode cL_law 175 = .ok (.iadd, 1) := dk_96 (dk_at dksL_law_6 23 rfl rfl)
theorem dL_law_176 : decode cL_law 176 = .ok (.iaload, 1) := dk_46 (dk_at dksL_law_7 0 rfl rfl)
theorem dL_law_177 : decode cL_law 177 = .ok (.invokevirtual 23, 3) := dk_182 0 23 (dk_at dksL_law_7 1 rfl rfl)
theorem dL_law_180 : decode cL_law 180 = .ok (.aload_n 2, 1) := dk_44 (dk_at dksL_law_7 4 rfl rfl)
theorem dL_law_181 : decode cL_law 181 = .ok (.aload_n 0, 1) := dk_42 (dk_at dksL_law_7 5 rfl rfl)
theorem dL_law_182 : decode cL_law 182 = .ok (.iload_n 3, 1) := dk_29 (dk_at dksL_law_7 6 rfl rfl)
theorem dL_law_183 : decode cL_law 183 = .ok (.iconst 1, 1) := dk_4 (dk_at dksL_law_7 7 rfl rfl)
theorem dL_law_184 : decode cL_law 184 = .ok (.iadd, 1) := dk_96 (dk_at dksL_law_7 8 rfl rfl)
theorem dL_law_185 : decode cL_law 185 = .ok (.iaload, 1) := dk_46 (dk_at dksL_law_7 9 rfl rfl)
theorem dL_law_186 : decode cL_law 186 = .ok (.aload_n 0, 1) := dk_42 (dk_at dksL_law_7 10 rfl rfl)
theorem dL_law_187 : decode cL_law 187 = .ok (.iload_n 3, 1) := dk_29 (dk_at dksL_law_7 11 rfl rfl)
theorem dL_law_188 : decode cL_law 188 = .ok (.iconst 2, 1) := dk_5 (dk_at dksL_law_7 12 rfl rfl)
theorem dL_law_189 : decode cL_law 189 = .ok (.iadd, 1) := dk_96 (dk_at dksL_law_7 13 rfl rfl)
theorem dL_law_190 : decode cL_law 190 = .ok (.iaload, 1) := dk_46 (dk_at dksL_law_7 14 rfl rfl)
theorem dL_law_191 : decode cL_law 191 = .ok (.invokevirtual 26, 3) := dk_182 0 26 (dk_at dksL_law_7 15 rfl rfl)
theorem dL_law_194 : decode cL_law 194 = .ok (.if_icmp .eq 88, 3) := dk_159 0 88 (dk_at dksL_law_7 18 rfl rfl)
theorem dL_law_197 : decode cL_law 197 = .ok (.iconst 0, 1) := dk_3 (dk_at dksL_law_7 21 rfl rfl)
theorem dL_law_198 : decode cL_law 198 = .ok (.ireturn, 1) := dk_172 (dk_at dksL_law_7 22 rfl rfl)
theorem dL_law_199 : decode cL_law 199 = .ok (.aload_n 1, 1) := dk_43 (dk_at dksL_law_7 23 rfl rfl)
theorem dL_law_200 : decode cL_law 200 = .ok (.aload_n 0, 1) := dk_42 (dk_at dksL_law_8 0 rfl rfl)
theorem dL_law_201 : decode cL_law 201 = .ok (.iload_n 3, 1) := dk_29 (dk_at dksL_law_8 1 rfl rfl)
theorem dL_law_202 : decode cL_law 202 = .ok (.iconst 1, 1) := dk_4 (dk_at dksL_law_8 2 rfl rfl)
theorem dL_law_203 : decode cL_law 203 = .ok (.iadd, 1) := dk_96 (dk_at dksL_law_8 3 rfl rfl)
theorem dL_law_204 : decode cL_law 204 = .ok (.iaload, 1) := dk_46 (dk_at dksL_law_8 4 rfl rfl)
theorem dL_law_205 : decode cL_law 205 = .ok (.invokevirtual 27, 3) := dk_182 0 27 (dk_at dksL_law_8 5 rfl rfl)
theorem dL_law_208 : decode cL_law 208 = .ok (.aload_n 2, 1) := dk_44 (dk_at dksL_law_8 8 rfl rfl)
theorem dL_law_209 : decode cL_law 209 = .ok (.aload_n 0, 1) := dk_42 (dk_at dksL_law_8 9 rfl rfl)
theorem dL_law_210 : decode cL_law 210 = .ok (.iload_n 3, 1) := dk_29 (dk_at dksL_law_8 10 rfl rfl)
theorem dL_law_211 : decode cL_law 211 = .ok (.iconst 1, 1) := dk_4 (dk_at dksL_law_8 11 rfl rfl)
theorem dL_law_212 : decode cL_law 212 = .ok (.iadd, 1) := dk_96 (dk_at dksL_law_8 12 rfl rfl)
theorem dL_law_213 : decode cL_law 213 = .ok (.iaload, 1) := dk_46 (dk_at dksL_law_8 13 rfl rfl)
theorem dL_law_214 : decode cL_law 214 = .ok (.invokevirtual 31, 3) := dk_182 0 31 (dk_at dksL_law_8 14 rfl rfl)
theorem dL_law_217 : decode cL_law 217 = .ok (.goto 65, 3) := dk_167 0 65 (dk_at dksL_law_8 17 rfl rfl)
theorem dL_law_220 : decode cL_law 220 = .ok (.aload_n 1, 1) := dk_43 (dk_at dksL_law_8 20 rfl rfl)
theorem dL_law_221 : decode cL_law 221 = .ok (.invokevirtual 32, 3) := dk_182 0 32 (dk_at dksL_law_8 21 rfl rfl)
theorem dL_law_224 : decode cL_law 224 = .ok (.aload_n 2, 1) := dk_44 (dk_at dksL_law_9 0 rfl rfl)
theorem dL_law_225 : decode cL_law 225 = .ok (.invokevirtual 36, 3) := dk_182 0 36 (dk_at dksL_law_9 1 rfl rfl)
theorem dL_law_228 : decode cL_law 228 = .ok (.if_icmp .eq 54, 3) := dk_159 0 54 (dk_at dksL_law_9 4 rfl rfl)
theorem dL_law_231 : decode cL_law 231 = .ok (.iconst 0, 1) := dk_3 (dk_at dksL_law_9 7 rfl rfl)
theorem dL_law_232 : decode cL_law 232 = .ok (.ireturn, 1) := dk_172 (dk_at dksL_law_9 8 rfl rfl)
theorem dL_law_233 : decode cL_law 233 = .ok (.aload_n 1, 1) := dk_43 (dk_at dksL_law_9 9 rfl rfl)
theorem dL_law_234 : decode cL_law 234 = .ok (.invokevirtual 37, 3) := dk_182 0 37 (dk_at dksL_law_9 10 rfl rfl)
theorem dL_law_237 : decode cL_law 237 = .ok (.aload_n 2, 1) := dk_44 (dk_at dksL_law_9 13 rfl rfl)
theorem dL_law_238 : decode cL_law 238 = .ok (.invokevirtual 41, 3) := dk_182 0 41 (dk_at dksL_law_9 14 rfl rfl)
theorem dL_law_241 : decode cL_law 241 = .ok (.if_icmp .eq 41, 3) := dk_159 0 41 (dk_at dksL_law_9 17 rfl rfl)
theorem dL_law_244 : decode cL_law 244 = .ok (.iconst 0, 1) := dk_3 (dk_at dksL_law_9 20 rfl rfl)
theorem dL_law_245 : decode cL_law 245 = .ok (.ireturn, 1) := dk_172 (dk_at dksL_law_9 21 rfl rfl)
theorem dL_law_246 : decode cL_law 246 = .ok (.aload_n 1, 1) := dk_43 (dk_at dksL_law_9 22 rfl rfl)
theorem dL_law_247 : decode cL_law 247 = .ok (.aload_n 0, 1) := dk_42 (dk_at dksL_law_9 23 rfl rfl)
theorem dL_law_248 : decode cL_law 248 = .ok (.iload_n 3, 1) := dk_29 (dk_at dksL_law_10 0 rfl rfl)
theorem dL_law_249 : decode cL_law 249 = .ok (.iconst 1, 1) := dk_4 (dk_at dksL_law_10 1 rfl rfl)
theorem dL_law_250 : decode cL_law 250 = .ok (.iadd, 1) := dk_96 (dk_at dksL_law_10 2 rfl rfl)
theorem dL_law_251 : decode cL_law 251 = .ok (.iaload, 1) := dk_46 (dk_at dksL_law_10 3 rfl rfl)
theorem dL_law_252 : decode cL_law 252 = .ok (.invokevirtual 42, 3) := dk_182 0 42 (dk_at dksL_law_10 4 rfl rfl)
theorem dL_law_255 : decode cL_law 255 = .ok (.aload_n 2, 1) := dk_44 (dk_at dksL_law_10 7 rfl rfl)
theorem dL_law_256 : decode cL_law 256 = .ok (.aload_n 0, 1) := dk_42 (dk_at dksL_law_10 8 rfl rfl)
theorem dL_law_257 : decode cL_law 257 = .ok (.iload_n 3, 1) := dk_29 (dk_at dksL_law_10 9 rfl rfl)
theorem dL_law_258 : decode cL_law 258 = .ok (.iconst 1, 1) := dk_4 (dk_at dksL_law_10 10 rfl rfl)
theorem dL_law_259 : decode cL_law 259 = .ok (.iadd, 1) := dk_96 (dk_at dksL_law_10 11 rfl rfl)
theorem dL_law_260 : decode cL_law 260 = .ok (.iaload, 1) := dk_46 (dk_at dksL_law_10 12 rfl rfl)
theorem dL_law_261 : decode cL_law 261 = .ok (.invokevirtual 46, 3) := dk_182 0 46 (dk_at dksL_law_10 13 rfl rfl)
theorem dL_law_264 : decode cL_law 264 = .ok (.if_icmp .eq 18, 3) := dk_159 0 18 (dk_at dksL_law_10 16 rfl rfl)
theorem dL_law_267 : decode cL_law 267 = .ok (.iconst 0, 1) := dk_3 (dk_at dksL_law_10 19 rfl rfl)
theorem dL_law_268 : decode cL_law 268 = .ok (.ireturn, 1) := dk_172 (dk_at dksL_law_10 20 rfl rfl)
theorem dL_law_269 : decode cL_law 269 = .ok (.aload_n 1, 1) := dk_43 (dk_at dksL_law_10 21 rfl rfl)
theorem dL_law_270 : decode cL_law 270 = .ok (.invokevirtual 47, 3) := dk_182 0 47 (dk_at dksL_law_11 0 rfl rfl)
theorem dL_law_273 : decode cL_law 273 = .ok (.aload_n 2, 1) := dk_44 (dk_at dksL_law_11 3 rfl rfl)
theorem dL_law_274 : decode cL_law 274 = .ok (.invokevirtual 50, 3) := dk_182 0 50 (dk_at dksL_law_11 4 rfl rfl)
theorem dL_law_277 : decode cL_law 277 = .ok (.if_icmp .eq 5, 3) := dk_159 0 5 (dk_at dksL_law_11 7 rfl rfl)
theorem dL_law_280 : decode cL_law 280 = .ok (.iconst 0, 1) := dk_3 (dk_at dksL_law_11 10 rfl rfl)
theorem dL_law_281 : decode cL_law 281 = .ok (.ireturn, 1) := dk_172 (dk_at dksL_law_11 11 rfl rfl)
theorem dL_law_282 : decode cL_law 282 = .ok (.iinc 3 6, 3) := dk_132 3 6 (dk_at dksL_law_11 12 rfl rfl)
theorem dL_law_285 : decode cL_law 285 = .ok (.goto (-267), 3) := dk_167 254 245 (dk_at dksL_law_11 15 rfl rfl)
theorem dL_law_288 : decode cL_law 288 = .ok (.iconst 1, 1) := dk_4 (dk_at dksL_law_11 18 rfl rfl)
theorem dL_law_289 : decode cL_law 289 = .ok (.ireturn, 1) := dk_172 (dk_at dksL_law_11 19 rfl rfl)
theorem q2 : (Jvm.Cond.initialized "BlockPackerLaw") ∈ lw_all := lw_g (lw_at lw_m1 0 rfl) rfl
set_option maxRecDepth 100000
theorem q33 : (Jvm.Cond.classLink "BlockPackerLaw" (7 : Nat) "BlockPacker") ∈ lw_all := lw_g (lw_at lw_m1 31 rfl) rfl
theorem q35 : (Jvm.Cond.methodLink "BlockPackerLaw" (9 : Nat) ({ cls := "BlockPacker", name := "<init>", desc := "()V" } : Jvm.MethodName)) ∈ lw_all := lw_g (lw_at lw_m1 33 rfl) rfl
theorem q87 : (Jvm.Cond.methodLink "BlockPackerLaw" (13 : Nat) ({ cls := "BlockPacker", name := "put", desc := "(IIII)Z" } : Jvm.MethodName)) ∈ lw_all := lw_g (lw_at lw_m1 85 rfl) rfl
theorem q95 : (Jvm.Cond.methodLink "BlockPackerLaw" (18 : Nat) ({ cls := "BlockPacker", name := "repeat", desc := "(II)I" } : Jvm.MethodName)) ∈ lw_all := lw_g (lw_at lw_m1 93 rfl) rfl
theorem q100 : (Jvm.Cond.methodLink "BlockPackerLaw" (23 : Nat) ({ cls := "BlockPacker", name := "fill", desc := "(II)I" } : Jvm.MethodName)) ∈ lw_all := lw_g (lw_at lw_m1 98 rfl) rfl
theorem q104 : (Jvm.Cond.methodLink "BlockPackerLaw" (27 : Nat) ({ cls := "BlockPacker", name := "trim", desc := "(I)V" } : Jvm.MethodName)) ∈ lw_all := lw_g (lw_at lw_m1 102 rfl) rfl
theorem q108 : (Jvm.Cond.methodLink "BlockPackerLaw" (32 : Nat) ({ cls := "BlockPacker", name := "pack", desc := "()Z" } : Jvm.MethodName)) ∈ lw_all := lw_g (lw_at lw_m1 106 rfl) rfl
theorem q336 : (Jvm.Cond.methodLink "BlockPackerLaw" (37 : Nat) ({ cls := "BlockPacker", name := "open", desc := "()I" } : Jvm.MethodName)) ∈ lw_all := lw_g (lw_at lw_m2 94 rfl) rfl
theorem q612 : (Jvm.Cond.methodLink "BlockPackerLaw" (42 : Nat) ({ cls := "BlockPacker", name := "opened", desc := "(I)I" } : Jvm.MethodName)) ∈ lw_all := lw_g (lw_at lw_m3 130 rfl) rfl
theorem q616 : (Jvm.Cond.methodLink "BlockPackerLaw" (47 : Nat) ({ cls := "BlockPacker", name := "size", desc := "()I" } : Jvm.MethodName)) ∈ lw_all := lw_g (lw_at lw_m3 134 rfl) rfl
theorem q620 : (Jvm.Cond.classLink "BlockPackerLaw" (10 : Nat) "BlockPackerModel") ∈ lw_all := lw_g (lw_at lw_m3 138 rfl) rfl
theorem q622 : (Jvm.Cond.methodLink "BlockPackerLaw" (12 : Nat) ({ cls := "BlockPackerModel", name := "<init>", desc := "()V" } : Jvm.MethodName)) ∈ lw_all := lw_g (lw_at lw_m3 140 rfl) rfl
theorem q645 : (Jvm.Cond.methodLink "BlockPackerLaw" (17 : Nat) ({ cls := "BlockPackerModel", name := "put", desc := "(IIII)Z" } : Jvm.MethodName)) ∈ lw_all := lw_g (lw_at lw_m3 163 rfl) rfl
theorem q649 : (Jvm.Cond.methodLink "BlockPackerLaw" (22 : Nat) ({ cls := "BlockPackerModel", name := "repeat", desc := "(II)I" } : Jvm.MethodName)) ∈ lw_all := lw_g (lw_at lw_m3 167 rfl) rfl
theorem q654 : (Jvm.Cond.methodLink "BlockPackerLaw" (26 : Nat) ({ cls := "BlockPackerModel", name := "fill", desc := "(II)I" } : Jvm.MethodName)) ∈ lw_all := lw_g (lw_at lw_m3 172 rfl) rfl
theorem q658 : (Jvm.Cond.methodLink "BlockPackerLaw" (31 : Nat) ({ cls := "BlockPackerModel", name := "trim", desc := "(I)V" } : Jvm.MethodName)) ∈ lw_all := lw_g (lw_at lw_m3 176 rfl) rfl
theorem q662 : (Jvm.Cond.methodLink "BlockPackerLaw" (36 : Nat) ({ cls := "BlockPackerModel", name := "pack", desc := "()Z" } : Jvm.MethodName)) ∈ lw_all := lw_g (lw_at lw_m3 180 rfl) rfl
theorem q666 : (Jvm.Cond.methodLink "BlockPackerLaw" (41 : Nat) ({ cls := "BlockPackerModel", name := "open", desc := "()I" } : Jvm.MethodName)) ∈ lw_all := lw_g (lw_at lw_m3 184 rfl) rfl
theorem q670 : (Jvm.Cond.methodLink "BlockPackerLaw" (46 : Nat) ({ cls := "BlockPackerModel", name := "opened", desc := "(I)I" } : Jvm.MethodName)) ∈ lw_all := lw_g (lw_at lw_m3 188 rfl) rfl
theorem q674 : (Jvm.Cond.methodLink "BlockPackerLaw" (50 : Nat) ({ cls := "BlockPackerModel", name := "size", desc := "()I" } : Jvm.MethodName)) ∈ lw_all := lw_g (lw_at lw_m3 192 rfl) rfl
end
section
/-! rows of our own: whole numbers as nI, calls whose cells stay in place, loops -/
set_option maxRecDepth 100000
theorem n_inc (a : Nat) {k : Int} (d : Nat) (hk : Int32.ofInt k = nI d) : nI a + Int32.ofInt k = nI (a + d) := by rw [hk, nI_add]
theorem n_dec (a : Nat) {k : Int} (d : Nat) (hk : Int32.ofInt k = -(nI d)) (h : d ≤ a) : nI a + Int32.ofInt k = nI (a - d) := by
  rw [hk, ← Int32.sub_eq_add_neg]
  exact pk_sub h
theorem n_zero : nI 0 = 0 := nI_0
/-- an int without its sign -/
def um (x : Int32) : Nat := x.toBitVec.toNat % 2 ^ 31
theorem um_lt (x : Int32) : um x < 2147483648 := Nat.mod_lt _ (by decide)
theorem n_mask (x : Int32) : x &&& 2147483647 = nI (um x) := pk_and x 31 (by decide)
/-- a byte -/
def bB (x : Int32) : Prop := x.toInt8.toInt32 = x
theorem bB_i2b (x : Int32) : bB x.toInt8.toInt32 := by
  unfold bB
  have h := pk_vb x
  rw [vp_nar_byte] at h
  exact h
theorem bB_nar (x : Int32) : bB (vp_nar .byte x) := by
  rw [vp_nar_byte]
  exact bB_i2b x
theorem bB_fits {x : Int32} (h : bB x) : fits .byte (.int x) = true := by
  have := pk_fb x
  rwa [h] at this
theorem bB_narrow {x : Int32} (h : bB x) : narrow .byte (.int x) = .int x := by
  have := pk_nb x
  rwa [h] at this
theorem bB_id {x : Int32} (h : bB x) : vp_nar .byte x = x := by
  rw [vp_nar_byte]
  exact h

theorem n_hP {D : va_G} {cl : List vw_C} {w : va_W} {t : State} {H : Heap} (ht : t.heap = H) (hP : va_P D cl w H) : va_P D cl w t.heap := by
  rw [ht]
  exact hP
section NR
variable {p : Program} {l : Launch} {e : Env} {R : Room} {s : State} {m : MethodId} {args : Array Value} {below : List Frame} {meth : Method} {c : Code} {H : Heap} {locs : List Loc} {cells slots : Nat} {Q : State → Prop}
variable {cc : ByteArray} {pc : Nat} {ls : Array Slot} {rest : List Value} {a b : Nat}
theorem n_top (h : a = b) (kk : W p l e R s m args below meth c H locs cells slots Q (F0 m pc ls (.int (nI b) :: rest))) : W p l e R s m args below meth c H locs cells slots Q (F0 m pc ls (.int (nI a) :: rest)) := by
  rw [h]
  exact kk
theorem n_topI {x y : Int32} (h : x = y) (kk : W p l e R s m args below meth c H locs cells slots Q (F0 m pc ls (.int y :: rest))) : W p l e R s m args below meth c H locs cells slots Q (F0 m pc ls (.int x :: rest)) := by
  rw [h]
  exact kk
theorem n_topM {x y : Int64} (h : x = y) (kk : W p l e R s m args below meth c H locs cells slots Q (F0 m pc ls (.long y :: rest))) : W p l e R s m args below meth c H locs cells slots Q (F0 m pc ls (.long x :: rest)) := by
  rw [h]
  exact kk
theorem n_iadd (hx : p.tables.exec = Jvm.exec) (hb : c.code = cc) (hdg : decode cc pc = .ok (.iadd, 1)) (kk : W p l e R s m args below meth c H locs cells slots Q (F0 m (pc + 1) ls (.int (nI (a + b)) :: rest))) : W p l e R s m args below meth c H locs cells slots Q (F0 m pc ls (.int (nI b) :: .int (nI a) :: rest)) := lv_iadd hx hb hdg (by rw [nI_add]; exact kk)
theorem n_isub (hx : p.tables.exec = Jvm.exec) (hb : c.code = cc) (hdg : decode cc pc = .ok (.isub, 1)) (h : b ≤ a) (kk : W p l e R s m args below meth c H locs cells slots Q (F0 m (pc + 1) ls (.int (nI (a - b)) :: rest))) : W p l e R s m args below meth c H locs cells slots Q (F0 m pc ls (.int (nI b) :: .int (nI a) :: rest)) := lv_isub hx hb hdg (by rw [pk_sub h]; exact kk)
theorem n_imul (hx : p.tables.exec = Jvm.exec) (hb : c.code = cc) (hdg : decode cc pc = .ok (.imul, 1)) (kk : W p l e R s m args below meth c H locs cells slots Q (F0 m (pc + 1) ls (.int (nI (a * b)) :: rest))) : W p l e R s m args below meth c H locs cells slots Q (F0 m pc ls (.int (nI b) :: .int (nI a) :: rest)) := lv_imul hx hb hdg (by rw [pk_mul]; exact kk)
theorem n_idiv (hx : p.tables.exec = Jvm.exec) (hb : c.code = cc) (hdg : decode cc pc = .ok (.idiv, 1)) (ha : a < 2147483648) (h0 : 0 < b) (hb2 : b < 2147483648) (kk : W p l e R s m args below meth c H locs cells slots Q (F0 m (pc + 1) ls (.int (nI (a / b)) :: rest))) : W p l e R s m args below meth c H locs cells slots Q (F0 m pc ls (.int (nI b) :: .int (nI a) :: rest)) := lv_idiv hx hb hdg (nI_ne0 h0 hb2) (by rw [pk_div ha h0 hb2]; exact kk)
theorem n_irem (hx : p.tables.exec = Jvm.exec) (hb : c.code = cc) (hdg : decode cc pc = .ok (.irem, 1)) (ha : a < 2147483648) (h0 : 0 < b) (hb2 : b < 2147483648) (kk : W p l e R s m args below meth c H locs cells slots Q (F0 m (pc + 1) ls (.int (nI (a % b)) :: rest))) : W p l e R s m args below meth c H locs cells slots Q (F0 m pc ls (.int (nI b) :: .int (nI a) :: rest)) := lv_irem hx hb hdg (nI_ne0 h0 hb2) (by rw [pk_rem ha h0 hb2]; exact kk)

theorem n_icmp_eq (hx : p.tables.exec = Jvm.exec) (hb : c.code = cc) {off : Int} {tgt : Nat} (hdg : decode cc pc = .ok (.if_icmp .eq off, 3)) (ht : (pc : Int) + off = (tgt : Int)) (ha : a < 2147483648) (hb2 : b < 2147483648) (kt : a = b → W p l e R s m args below meth c H locs cells slots Q (F0 m tgt ls rest)) (kf : ¬ a = b → W p l e R s m args below meth c H locs cells slots Q (F0 m (pc + 3) ls rest)) : W p l e R s m args below meth c H locs cells slots Q (F0 m pc ls (.int (nI b) :: .int (nI a) :: rest)) := lv_icmp_eq hx hb hdg ht (fun h => kt ((nI_eq ha hb2).mp h)) (fun h => kf (fun q => h ((nI_eq ha hb2).mpr q)))
theorem n_icmp_ne (hx : p.tables.exec = Jvm.exec) (hb : c.code = cc) {off : Int} {tgt : Nat} (hdg : decode cc pc = .ok (.if_icmp .ne off, 3)) (ht : (pc : Int) + off = (tgt : Int)) (ha : a < 2147483648) (hb2 : b < 2147483648) (kt : ¬ a = b → W p l e R s m args below meth c H locs cells slots Q (F0 m tgt ls rest)) (kf : a = b → W p l e R s m args below meth c H locs cells slots Q (F0 m (pc + 3) ls rest)) : W p l e R s m args below meth c H locs cells slots Q (F0 m pc ls (.int (nI b) :: .int (nI a) :: rest)) := lv_icmp_ne hx hb hdg ht (fun h => kt (fun q => h ((nI_eq ha hb2).mpr q))) (fun h => kf ((nI_eq ha hb2).mp h))
theorem n_icmp_lt (hx : p.tables.exec = Jvm.exec) (hb : c.code = cc) {off : Int} {tgt : Nat} (hdg : decode cc pc = .ok (.if_icmp .lt off, 3)) (ht : (pc : Int) + off = (tgt : Int)) (ha : a < 2147483648) (hb2 : b < 2147483648) (kt : a < b → W p l e R s m args below meth c H locs cells slots Q (F0 m tgt ls rest)) (kf : b ≤ a → W p l e R s m args below meth c H locs cells slots Q (F0 m (pc + 3) ls rest)) : W p l e R s m args below meth c H locs cells slots Q (F0 m pc ls (.int (nI b) :: .int (nI a) :: rest)) := lv_icmp_lt hx hb hdg ht (fun h => kt ((nI_ltI ha hb2).mp h)) (fun h => kf (by have h9 := mt (nI_ltI ha hb2).mpr h; omega))
theorem n_icmp_ge (hx : p.tables.exec = Jvm.exec) (hb : c.code = cc) {off : Int} {tgt : Nat} (hdg : decode cc pc = .ok (.if_icmp .ge off, 3)) (ht : (pc : Int) + off = (tgt : Int)) (ha : a < 2147483648) (hb2 : b < 2147483648) (kt : b ≤ a → W p l e R s m args below meth c H locs cells slots Q (F0 m tgt ls rest)) (kf : a < b → W p l e R s m args below meth c H locs cells slots Q (F0 m (pc + 3) ls rest)) : W p l e R s m args below meth c H locs cells slots Q (F0 m pc ls (.int (nI b) :: .int (nI a) :: rest)) := lv_icmp_ge hx hb hdg ht (fun h => kt ((nI_leI hb2 ha).mp h)) (fun h => kf (by have h9 := mt (nI_leI hb2 ha).mpr h; omega))
theorem n_icmp_gt (hx : p.tables.exec = Jvm.exec) (hb : c.code = cc) {off : Int} {tgt : Nat} (hdg : decode cc pc = .ok (.if_icmp .gt off, 3)) (ht : (pc : Int) + off = (tgt : Int)) (ha : a < 2147483648) (hb2 : b < 2147483648) (kt : b < a → W p l e R s m args below meth c H locs cells slots Q (F0 m tgt ls rest)) (kf : a ≤ b → W p l e R s m args below meth c H locs cells slots Q (F0 m (pc + 3) ls rest)) : W p l e R s m args below meth c H locs cells slots Q (F0 m pc ls (.int (nI b) :: .int (nI a) :: rest)) := lv_icmp_gt hx hb hdg ht (fun h => kt ((nI_ltI hb2 ha).mp h)) (fun h => kf (by have h9 := mt (nI_ltI hb2 ha).mpr h; omega))
theorem n_icmp_le (hx : p.tables.exec = Jvm.exec) (hb : c.code = cc) {off : Int} {tgt : Nat} (hdg : decode cc pc = .ok (.if_icmp .le off, 3)) (ht : (pc : Int) + off = (tgt : Int)) (ha : a < 2147483648) (hb2 : b < 2147483648) (kt : a ≤ b → W p l e R s m args below meth c H locs cells slots Q (F0 m tgt ls rest)) (kf : b < a → W p l e R s m args below meth c H locs cells slots Q (F0 m (pc + 3) ls rest)) : W p l e R s m args below meth c H locs cells slots Q (F0 m pc ls (.int (nI b) :: .int (nI a) :: rest)) := lv_icmp_le hx hb hdg ht (fun h => kt ((nI_leI ha hb2).mp h)) (fun h => kf (by have h9 := mt (nI_leI ha hb2).mpr h; omega))
theorem n_if_eq (hx : p.tables.exec = Jvm.exec) (hb : c.code = cc) {off : Int} {tgt : Nat} (hdg : decode cc pc = .ok (.ifCond .eq off, 3)) (ht : (pc : Int) + off = (tgt : Int)) (ha : a < 2147483648) (kt : a = 0 → W p l e R s m args below meth c H locs cells slots Q (F0 m tgt ls rest)) (kf : ¬ a = 0 → W p l e R s m args below meth c H locs cells slots Q (F0 m (pc + 3) ls rest)) : W p l e R s m args below meth c H locs cells slots Q (F0 m pc ls (.int (nI a) :: rest)) := lv_if_eq hx hb hdg ht (fun h => kt ((nI_eq ha (b := 0) (by decide)).mp (h.trans nI_0.symm))) (fun h => kf (fun q => h (by rw [q]; exact nI_0)))
theorem n_if_ne (hx : p.tables.exec = Jvm.exec) (hb : c.code = cc) {off : Int} {tgt : Nat} (hdg : decode cc pc = .ok (.ifCond .ne off, 3)) (ht : (pc : Int) + off = (tgt : Int)) (ha : a < 2147483648) (kt : ¬ a = 0 → W p l e R s m args below meth c H locs cells slots Q (F0 m tgt ls rest)) (kf : a = 0 → W p l e R s m args below meth c H locs cells slots Q (F0 m (pc + 3) ls rest)) : W p l e R s m args below meth c H locs cells slots Q (F0 m pc ls (.int (nI a) :: rest)) := lv_if_ne hx hb hdg ht (fun h => kt (fun q => h (by rw [q]; exact nI_0))) (fun h => kf ((nI_eq ha (b := 0) (by decide)).mp (h.trans nI_0.symm)))
theorem n_if_lt (hx : p.tables.exec = Jvm.exec) (hb : c.code = cc) {off : Int} {tgt : Nat} (hdg : decode cc pc = .ok (.ifCond .lt off, 3)) (ht : (pc : Int) + off = (tgt : Int)) (ha : a < 2147483648) (kf : W p l e R s m args below meth c H locs cells slots Q (F0 m (pc + 3) ls rest)) : W p l e R s m args below meth c H locs cells slots Q (F0 m pc ls (.int (nI a) :: rest)) := lv_if_lt hx hb hdg ht (fun h => absurd h (nI_pos ha)) (fun _ => kf)
theorem n_if_ge (hx : p.tables.exec = Jvm.exec) (hb : c.code = cc) {off : Int} {tgt : Nat} (hdg : decode cc pc = .ok (.ifCond .ge off, 3)) (ht : (pc : Int) + off = (tgt : Int)) (ha : a < 2147483648) (kt : W p l e R s m args below meth c H locs cells slots Q (F0 m tgt ls rest)) : W p l e R s m args below meth c H locs cells slots Q (F0 m pc ls (.int (nI a) :: rest)) := lv_if_ge hx hb hdg ht (fun _ => kt) (fun h => absurd (nI_pos' ha) h)
/-- a place where roads meet: proved once -/
theorem n_cut {H0 : Heap} {locs0 : List Loc} {ls0 : Array Slot} {c0 s0 pc0 : Nat} {st0 : List Value} (pc : Nat) (I : Heap → List Loc → Array Slot → Nat → Nat → Prop) (K : ∀ (H : Heap) (locs : List Loc) (ls : Array Slot) (cells slots : Nat), I H locs ls cells slots → W p l e R s m args below meth c H locs cells slots Q (F0 m pc ls [])) (kk : (∀ (H : Heap) (locs : List Loc) (ls : Array Slot) (cells slots : Nat), I H locs ls cells slots → W p l e R s m args below meth c H locs cells slots Q (F0 m pc ls [])) → W p l e R s m args below meth c H0 locs0 c0 s0 Q (F0 m pc0 ls0 st0)) : W p l e R s m args below meth c H0 locs0 c0 s0 Q (F0 m pc0 ls0 st0) := kk K
/-- a loop by a number that falls -/
theorem n_loop (pc : Nat) (I : Nat → Heap → List Loc → Array Slot → Nat → Nat → Prop) (step : ∀ n : Nat, (∀ k : Nat, k < n → ∀ (H : Heap) (locs : List Loc) (ls : Array Slot) (cells slots : Nat), I k H locs ls cells slots → W p l e R s m args below meth c H locs cells slots Q (F0 m pc ls [])) → ∀ (H : Heap) (locs : List Loc) (ls : Array Slot) (cells slots : Nat), I n H locs ls cells slots → W p l e R s m args below meth c H locs cells slots Q (F0 m pc ls [])) : ∀ (n : Nat) (H : Heap) (locs : List Loc) (ls : Array Slot) (cells slots : Nat), I n H locs ls cells slots → W p l e R s m args below meth c H locs cells slots Q (F0 m pc ls []) := by
  intro n
  induction n using Nat.strongRecOn with
  | _ n ih => exact step n ih
theorem n_loopAt (pc : Nat) (I : Nat → Heap → List Loc → Array Slot → Nat → Nat → Prop) (n : Nat) (h : I n H locs ls cells slots) (step : ∀ n : Nat, (∀ k : Nat, k < n → ∀ (H : Heap) (locs : List Loc) (ls : Array Slot) (cells slots : Nat), I k H locs ls cells slots → W p l e R s m args below meth c H locs cells slots Q (F0 m pc ls [])) → ∀ (H : Heap) (locs : List Loc) (ls : Array Slot) (cells slots : Nat), I n H locs ls cells slots → W p l e R s m args below meth c H locs cells slots Q (F0 m pc ls [])) : W p l e R s m args below meth c H locs cells slots Q (F0 m pc ls []) := n_loop pc I step n H locs ls cells slots h
end NR

/-! starts of contracts -/
/-- a method that reads the cells w -/
def pcR (av : List Value) (D : va_G) (cl : List vw_C) (w : va_W) (tys : List (ClassId × FieldType)) : Array Value → State → Prop := va_Pc av (fun U => va_P D cl w U.heap ∧ va_K D cl tys U)
theorem pcR_pre {s : State} {H : Heap} {av : List Value} {D : va_G} {cl : List vw_C} {w : va_W} {tys : List (ClassId × FieldType)} (hP : va_P D cl w H) (hK : va_K D cl tys s) : PreS s H (pcR av D cl w tys) av :=
  ⟨fun a U g mk q => ⟨q.1, q.2.1, va_K.moved (u := U) (U := U.calling g mk a) (Vm.Alike.refl U.vm) q.2.2⟩, fun U hU hW => ⟨rfl, by rw [hU]; exact hP, va_K.moved hW.alike hK⟩⟩
theorem pcR_preV {s : State} {H : Heap} {C : String} {b : Addr} {av : List Value} {D : va_G} {cl : List vw_C} {w : va_W} {tys : List (ClassId × FieldType)} (hP : va_P D cl w H) (hK : va_K D cl tys s) (hr : ∃ cell : Cell, H[b]? = some cell ∧ cell.vm.isStatics = false ∧ s.vm.findClass C = some cell.cls) : PreV s H C b (pcR (.ref b :: av) D cl w tys) av :=
  ⟨(pcR_pre hP hK).1, hr, fun U hU hW => ⟨rfl, by rw [hU]; exact hP, va_K.moved hW.alike hK⟩⟩
/-- a method that may write the cells w, of a heap of size sz -/
def pcW (av : List Value) (D : va_G) (cl : List vw_C) (w : va_W) (tys : List (ClassId × FieldType)) (sz : Nat) : Array Value → State → Prop := va_Pc av (fun U => U.heap.size = sz ∧ va_P D cl w U.heap ∧ va_K D cl tys U ∧ va_D (fun _ => True) w)
theorem pcW_pre {s : State} {H : Heap} {av : List Value} {D : va_G} {cl : List vw_C} {w : va_W} {tys : List (ClassId × FieldType)} {A : Nat → Prop} (hP : va_P D cl w H) (hK : va_K D cl tys s) (hD : va_D A w) : PreS s H (pcW av D cl w tys H.size) av :=
  ⟨fun a U g mk q => ⟨q.1, q.2.1, q.2.2.1, va_K.moved (u := U) (U := U.calling g mk a) (Vm.Alike.refl U.vm) q.2.2.2.1, q.2.2.2.2⟩, fun U hU hW => ⟨rfl, by rw [hU], by rw [hU]; exact hP, va_K.moved hW.alike hK, hD.weaken (fun _ _ _ _ => trivial)⟩⟩
theorem pcW_preV {s : State} {H : Heap} {C : String} {b : Addr} {av : List Value} {D : va_G} {cl : List vw_C} {w : va_W} {tys : List (ClassId × FieldType)} {A : Nat → Prop} (hP : va_P D cl w H) (hK : va_K D cl tys s) (hD : va_D A w) (hr : ∃ cell : Cell, H[b]? = some cell ∧ cell.vm.isStatics = false ∧ s.vm.findClass C = some cell.cls) : PreV s H C b (pcW (.ref b :: av) D cl w tys H.size) av :=
  ⟨(pcW_pre hP hK hD).1, hr, fun U hU hW => ⟨rfl, by rw [hU], by rw [hU]; exact hP, va_K.moved hW.alike hK, hD.weaken (fun _ _ _ _ => trivial)⟩⟩
/-- .. and that reads one static number -/
abbrev skZ (A : Nat → Prop) (U : State) (H : Heap) : Prop := va_Z "LZ4Constants" "SKIP_STRENGTH" "I" (.int 6) A U H ∧ va_Nw (.declares ⟨"LZ4Compressor", "compress", "([BII[BII)I"⟩) U ∧ va_Nw (.declares ⟨"LZ4SafeDecompressor", "decompress", "([BII[BII)I"⟩) U
theorem skZ.same {A : Nat → Prop} {u U : State} {H : Heap} (hvm : u.vm = U.vm) (h : skZ A u H) : skZ A U H := ⟨va_Z.moved (hvm ▸ Vm.Alike.refl u.vm) h.1, va_Nw.same rfl hvm h.2.1, va_Nw.same rfl hvm h.2.2⟩
theorem skZ.warm {A : Nat → Prop} {u U : State} {H : Heap} (hW : u.WarmedH U.vm) (h : skZ A u H) : skZ A U H := ⟨va_Z.moved hW.alike h.1, va_Nw.warmD hW h.2.1, va_Nw.warmD hW h.2.2⟩
def pcZ (av : List Value) (D : va_G) (cl : List vw_C) (w : va_W) (tys : List (ClassId × FieldType)) (sz : Nat) : Array Value → State → Prop := va_Pc av (fun U => U.heap.size = sz ∧ va_P D cl w U.heap ∧ va_K D cl tys U ∧ va_D (fun _ => True) w ∧ skZ (va_A w sz) U U.heap)
theorem skZ_at {A B : Nat → Prop} {s : State} {H : Heap} {locs : List Loc} (hZ : skZ A s s.heap) (hS : va_S A s.heap H locs) (hB : ∀ q, B q → A q) : skZ B s H := ⟨va_Z.narrow (va_Z.kept hZ.1 hS.2.1) hB, hZ.2⟩
theorem pcZ_pre {s : State} {H : Heap} {av : List Value} {D : va_G} {cl : List vw_C} {w : va_W} {tys : List (ClassId × FieldType)} {A : Nat → Prop} (hP : va_P D cl w H) (hK : va_K D cl tys s) (hD : va_D A w) (hZ : skZ (va_A w H.size) s H) : PreS s H (pcZ av D cl w tys H.size) av :=
  ⟨fun a U g mk q => ⟨q.1, q.2.1, q.2.2.1, va_K.moved (u := U) (U := U.calling g mk a) (Vm.Alike.refl U.vm) q.2.2.2.1, q.2.2.2.2.1, skZ.same (u := U) (U := U.calling g mk a) rfl q.2.2.2.2.2⟩, fun U hU hW => ⟨rfl, by rw [hU], by rw [hU]; exact hP, va_K.moved hW.alike hK, hD.weaken (fun _ _ _ _ => trivial), by rw [hU]; exact hZ.warm hW⟩⟩
theorem pcZ_preV {s : State} {H : Heap} {C : String} {b : Addr} {av : List Value} {D : va_G} {cl : List vw_C} {w : va_W} {tys : List (ClassId × FieldType)} {A : Nat → Prop} (hP : va_P D cl w H) (hK : va_K D cl tys s) (hD : va_D A w) (hZ : skZ (va_A w H.size) s H) (hr : ∃ cell : Cell, H[b]? = some cell ∧ cell.vm.isStatics = false ∧ s.vm.findClass C = some cell.cls) : PreV s H C b (pcZ (.ref b :: av) D cl w tys H.size) av :=
  ⟨(pcZ_pre hP hK hD hZ).1, hr, fun U hU hW => (pcZ_pre (av := .ref b :: av) hP hK hD hZ).2 U hU hW⟩

theorem n_metR {l : Launch} {y : MethodName} {cc : ByteArray} {maxL : Nat} {ret : Option FieldType} {rm : Room} {av : List Value} {D : va_G} {cl : List vw_C} {w : va_W} {tys : List (ClassId × FieldType)} {Qc : Array Value → State → Outcome → State → Prop} {mc ms : Nat} {free : Addr → Prop} (hy : plainName y.cls = true) (hlen : (lg_sl av).length ≤ maxL)
    (body : ∀ (p : Program) (e : Env) (s : State) (m : MethodId) (below : List Frame) (meth : Method) (c : Code), p.tables.exec = Jvm.exec → c.code = cc → meth.sig.returnType = ret → meth.locks = false → c.maxLocals = maxL → s.vm.findClass y.cls = some m.cls → meth.name = y.name → (∀ w ∈ lw_all, w.before av.toArray s = true) → va_P D cl w s.heap → va_K D cl tys s → ∀ ls : Array Slot, lv_has ls maxL (lv_args 0 av) → W p l e rm s m av.toArray below meth c s.heap [] 0 0 (MQ below Qc av.toArray s mc ms free) (F0 m 0 ls [])) : Met l y (ws_ y cc maxL ret) rm (pcR av D cl w tys) Qc mc ms free := by
  refine Met.ofW (cc := cc) (maxL := maxL) (ret := ret) hy rfl ?_
  intro p e s m args below meth c s₁ B hml hv
  obtain ⟨rfl, hP, hK⟩ := hv
  have hts := atoms_spec (ws := ws_ y cc maxL ret) B.pre
  have hl := lv_entry av (n := maxL) hlen
  rw [lg_entry_eq]
  exact body p e s m below meth c B.exec B.bytes B.returns B.notSynchronized hml (findClass_of_methodNamed B.named) (name_of_methodNamed B.named B.method).1 (fun w h => hts w (List.mem_cons_of_mem _ h)) hP hK _ hl
theorem n_metW {l : Launch} {y : MethodName} {cc : ByteArray} {maxL : Nat} {ret : Option FieldType} {rm : Room} {av : List Value} {D : va_G} {cl : List vw_C} {w : va_W} {tys : List (ClassId × FieldType)} {sz : Nat} {Qc : (Nat → Prop) → Array Value → State → Outcome → State → Prop} {mc ms : Nat} (hy : plainName y.cls = true) (hlen : (lg_sl av).length ≤ maxL)
    (body : ∀ (p : Program) (e : Env) (s : State) (m : MethodId) (below : List Frame) (meth : Method) (c : Code), p.tables.exec = Jvm.exec → c.code = cc → meth.sig.returnType = ret → meth.locks = false → c.maxLocals = maxL → s.vm.findClass y.cls = some m.cls → meth.name = y.name → (∀ w ∈ lw_all, w.before av.toArray s = true) → va_P D cl w s.heap → va_K D cl tys s → ∀ A : Nat → Prop, s.heap.size = sz → va_D A w → (∀ q : Nat, s.heap.size ≤ q → A q) → va_S A s.heap s.heap [] → ∀ ls : Array Slot, lv_has ls maxL (lv_args 0 av) → W p l e rm s m av.toArray below meth c s.heap [] 0 0 (MQ below (Qc A) av.toArray s mc ms A) (F0 m 0 ls [])) : Met l y (ws_ y cc maxL ret) rm (pcW av D cl w tys sz) (Qc (va_A w sz)) mc ms (va_A w sz) := by
  refine Met.ofW (cc := cc) (maxL := maxL) (ret := ret) hy rfl ?_
  intro p e s m args below meth c s₁ B hml hv
  obtain ⟨rfl, hsz, hP, hK, hD0⟩ := hv
  have hts := atoms_spec (ws := ws_ y cc maxL ret) B.pre
  have hl := lv_entry av (n := maxL) hlen
  rw [lg_entry_eq]
  exact body p e s m below meth c B.exec B.bytes B.returns B.notSynchronized hml (findClass_of_methodNamed B.named) (name_of_methodNamed B.named B.method).1 (fun w h => hts w (List.mem_cons_of_mem _ h)) hP hK (va_A w sz) hsz hD0.self (fun q h => Or.inr (by rw [← hsz]; exact h)) va_S.rf _ hl
theorem n_metZ {l : Launch} {y : MethodName} {cc : ByteArray} {maxL : Nat} {ret : Option FieldType} {rm : Room} {av : List Value} {D : va_G} {cl : List vw_C} {w : va_W} {tys : List (ClassId × FieldType)} {sz : Nat} {Qc : (Nat → Prop) → Array Value → State → Outcome → State → Prop} {mc ms : Nat} (hy : plainName y.cls = true) (hlen : (lg_sl av).length ≤ maxL)
    (body : ∀ (p : Program) (e : Env) (s : State) (m : MethodId) (below : List Frame) (meth : Method) (c : Code), p.tables.exec = Jvm.exec → c.code = cc → meth.sig.returnType = ret → meth.locks = false → c.maxLocals = maxL → s.vm.findClass y.cls = some m.cls → meth.name = y.name → (∀ w ∈ lw_all, w.before av.toArray s = true) → va_P D cl w s.heap → va_K D cl tys s → ∀ A : Nat → Prop, s.heap.size = sz → va_D A w → (∀ q : Nat, s.heap.size ≤ q → A q) → va_S A s.heap s.heap [] → skZ A s s.heap → ∀ ls : Array Slot, lv_has ls maxL (lv_args 0 av) → W p l e rm s m av.toArray below meth c s.heap [] 0 0 (MQ below (Qc A) av.toArray s mc ms A) (F0 m 0 ls [])) : Met l y (ws_ y cc maxL ret) rm (pcZ av D cl w tys sz) (Qc (va_A w sz)) mc ms (va_A w sz) := by
  refine Met.ofW (cc := cc) (maxL := maxL) (ret := ret) hy rfl ?_
  intro p e s m args below meth c s₁ B hml hv
  obtain ⟨rfl, hsz, hP, hK, hD0, hZ⟩ := hv
  have hts := atoms_spec (ws := ws_ y cc maxL ret) B.pre
  have hl := lv_entry av (n := maxL) hlen
  rw [lg_entry_eq]
  exact body p e s m below meth c B.exec B.bytes B.returns B.notSynchronized hml (findClass_of_methodNamed B.named) (name_of_methodNamed B.named B.method).1 (fun w h => hts w (List.mem_cons_of_mem _ h)) hP hK (va_A w sz) hsz hD0.self (fun q h => Or.inr (by rw [← hsz]; exact h)) va_S.rf hZ _ hl
theorem n_metWH {l : Launch} {y : MethodName} {cc : ByteArray} {maxL : Nat} {ret : Option FieldType} {rm : Room} {av : List Value} {D : va_G} {cl : List vw_C} {w : va_W} {tys : List (ClassId × FieldType)} {hh : List (Nat × Nat × Nat × Nat)} {sz : Nat} {Qc : (Nat → Prop) → Array Value → State → Outcome → State → Prop} {mc ms : Nat} (hy : plainName y.cls = true) (hlen : (lg_sl av).length ≤ maxL)
    (body : ∀ (p : Program) (e : Env) (s : State) (m : MethodId) (below : List Frame) (meth : Method) (c : Code), p.tables.exec = Jvm.exec → c.code = cc → meth.sig.returnType = ret → meth.locks = false → c.maxLocals = maxL → s.vm.findClass y.cls = some m.cls → meth.name = y.name → (∀ w ∈ lw_all, w.before av.toArray s = true) → va_P D cl w s.heap → va_K D cl tys s → ∀ A : Nat → Prop, s.heap.size = sz → va_D A w → (∀ q : Nat, s.heap.size ≤ q → A q) → va_S A s.heap s.heap [] → ∀ ls : Array Slot, lv_has ls maxL (lv_args 0 av) → W p l e rm s m av.toArray below meth c s.heap [] 0 0 (MQ below (Qc A) av.toArray s mc ms A) (F0 m 0 ls [])) : Met l y (wsW_ y cc maxL ret hh) rm (pcW av D cl w tys sz) (Qc (va_A w sz)) mc ms (va_A w sz) := by
  refine va_MetW (cc := cc) (maxL := maxL) (ret := ret) (hh := hh) hy rfl ?_
  intro p e s m args below meth c s₁ B hml hv
  obtain ⟨rfl, hsz, hP, hK, hD0⟩ := hv
  have hts := atoms_spec (ws := wsW_ y cc maxL ret hh) B.pre
  have hl := lv_entry av (n := maxL) hlen
  rw [lg_entry_eq]
  exact body p e s m below meth c B.exec B.bytes B.returns B.notSynchronized hml (findClass_of_methodNamed B.named) (name_of_methodNamed B.named B.method).1 (fun w h => hts w (List.mem_cons_of_mem _ h)) hP hK (va_A w sz) hsz hD0.self (fun q h => Or.inr (by rw [← hsz]; exact h)) va_S.rf _ hl

/-! what a callee hands back is laid where it was -/
def n_put : va_W → List Nat → va_W → va_W
  | ws, i :: is, q :: w1 => n_put (ws.set i q) is w1
  | ws, _, _ => ws
theorem n_put_at : ∀ (is : List Nat) (ws w1 : va_W), is.length = w1.length → (∀ i ∈ is, i < ws.length) → ∀ (k : Nat) (q : Nat × va_E), (n_put ws is w1)[k]? = some q → (∃ j : Nat, is[j]? = some k ∧ w1[j]? = some q) ∨ (k ∉ is ∧ ws[k]? = some q)
  | [], ws, w1, _, _, k, q, h => Or.inr ⟨List.not_mem_nil, by cases w1 <;> exact h⟩
  | i :: is, ws, [], hn, _, k, q, h => by simp at hn
  | i :: is, ws, q0 :: w1, hn, hi, k, q, h => by
    have hn' : is.length = w1.length := by simpa using hn
    have hi' : ∀ j ∈ is, j < (ws.set i q0).length := fun j hj => by rw [List.length_set]; exact hi j (List.mem_cons_of_mem _ hj)
    rcases n_put_at is (ws.set i q0) w1 hn' hi' k q h with ⟨j, h1, h2⟩ | ⟨h1, h2⟩
    · exact Or.inl ⟨j + 1, h1, h2⟩
    · by_cases hk : k = i
      · subst hk
        rw [List.getElem?_set_self (hi k List.mem_cons_self)] at h2
        exact Or.inl ⟨0, rfl, h2⟩
      · rw [List.getElem?_set_ne (Ne.symm hk)] at h2
        exact Or.inr ⟨fun hm => by rcases List.mem_cons.mp hm with h3 | h3; exact hk h3; exact h1 h3, h2⟩
theorem n_join {A0 : Nat → Prop} {D : va_G} {cl : List vw_C} {ws wc w1 : va_W} {H H1 : Heap} (hP : va_P D cl ws H) (hD : va_D A0 ws) (is : List Nat) (hC : is.map (fun i => ws[i]?) = wc.map some) (hk : ∀ q : Nat, q < H.size → ¬ va_A wc H.size q → H1[q]? = H[q]?) (hP1 : va_P D cl w1 H1) (ha : w1.map Prod.fst = wc.map Prod.fst) : va_P D cl (n_put ws is w1) H1 ∧ va_D A0 (n_put ws is w1) := by
  have at' : ∀ (j i : Nat), is[j]? = some i → ∃ q, wc[j]? = some q ∧ ws[i]? = some q := by
    intro j i hj
    have h1 : (is.map (fun i => ws[i]?))[j]? = (wc.map some)[j]? := by rw [hC]
    rw [List.getElem?_map, hj, List.getElem?_map] at h1
    cases hq : wc[j]? with
    | none => rw [hq] at h1; simp at h1
    | some q => rw [hq] at h1; exact ⟨q, rfl, by simpa using h1⟩
  have len : is.length = w1.length := by
    have h1 : (is.map (fun i => ws[i]?)).length = (wc.map some).length := by rw [hC]
    have h2 : (w1.map Prod.fst).length = (wc.map Prod.fst).length := by rw [ha]
    simp only [List.length_map] at h1 h2
    omega
  have hlt : ∀ i ∈ is, i < ws.length := by
    intro i hi
    obtain ⟨j, hj⟩ := List.getElem?_of_mem hi
    obtain ⟨q, -, h2⟩ := at' j i hj
    exact (List.getElem?_eq_some_iff.mp h2).1
  have old : ∀ (k : Nat) (q : Nat × va_E), (n_put ws is w1)[k]? = some q → ∃ q0, ws[k]? = some q0 ∧ q0.1 = q.1 := by
    intro k q h
    rcases n_put_at is ws w1 len hlt k q h with ⟨j, h1, h2⟩ | ⟨-, h2⟩
    · obtain ⟨q0, h3, h4⟩ := at' j k h1
      refine ⟨q0, h4, ?_⟩
      have h5 : (w1.map Prod.fst)[j]? = (wc.map Prod.fst)[j]? := by rw [ha]
      rw [List.getElem?_map, List.getElem?_map, h2, h3] at h5
      exact (Option.some.inj h5).symm
    · exact ⟨q, h2, rfl⟩
  refine ⟨fun k q h => ?_, fun i j x y hi hj hxy => ?_, fun k q h => ?_⟩
  · rcases n_put_at is ws w1 len hlt k q h with ⟨j, h1, h2⟩ | ⟨h1, h2⟩
    · exact hP1 j q h2
    · have hl := (hP k q h2).lt
      refine (hP k q h2).kept (hk q.1 hl (fun z => ?_))
      rcases z with ⟨k2, e2, h3⟩ | z
      · have h4 : k2 < is.length := by
          have h5 := (List.getElem?_eq_some_iff.mp h3).1
          have h6 : (is.map (fun i => ws[i]?)).length = (wc.map some).length := by rw [hC]
          simp only [List.length_map] at h6
          omega
        obtain ⟨q5, h6, h7⟩ := at' k2 is[k2] (List.getElem?_eq_getElem h4)
        rw [h3] at h6
        cases h6
        have h8 := hD.1 k is[k2] q (q.1, e2) h2 h7 rfl
        exact h1 (by rw [h8]; exact List.getElem_mem h4)
      · omega
  · obtain ⟨x0, h1, h2⟩ := old i x hi
    obtain ⟨y0, h3, h4⟩ := old j y hj
    exact hD.1 i j x0 y0 h1 h3 (h2.trans (hxy.trans h4.symm))
  · obtain ⟨q0, h1, h2⟩ := old k q h
    rw [← h2]
    exact hD.2 k q0 h1
section NC
variable {p : Program} {l : Launch} {e : Env} {R : Room} {s : State} {m : MethodId} {args : Array Value} {below : List Frame} {meth : Method} {c : Code} {H : Heap} {locs : List Loc} {cells slots : Nat} {Q : State → Prop}
variable {pc : Nat} {ls : Array Slot} {rest st0 : List Value} {a : Array Value} {A0 : Nat → Prop} {H0 : Heap} {mc ms : Nat} {D : va_G} {cl : List vw_C} {ws wc : va_W}
theorem n_calli {S : Type} {post : Int32 → S → Prop} {wd : S → va_W} (hr : va_Run p l e R s m args below meth c H locs cells slots mc ms (F0 m pc ls st0) rest (va_Qi post (fun u t => va_P D cl (wd u) t.heap) (va_A wc H.size) a) (va_A wc H.size)) (hP : va_P D cl ws H) (hD : va_D A0 ws) (hS : va_S A0 H0 H locs) (hA : ∀ q : Nat, H0.size ≤ q → A0 q) (is : List Nat) (hC : is.map (fun i => ws[i]?) = wc.map some) (ha : ∀ u : S, (wd u).map Prod.fst = wc.map Prod.fst)
    (kk : ∀ (r : Int32) (u : S) (H1 : Heap) (locs1 : List Loc), post r u → va_P D cl (n_put ws is (wd u)) H1 → va_D A0 (n_put ws is (wd u)) → va_S A0 H0 H1 locs1 → W p l e R s m args below meth c H1 locs1 (cells + mc) (slots + ms) Q (F0 m (pc + 3) ls (.int r :: rest))) : W p l e R s m args below meth c H locs cells slots Q (F0 m pc ls st0) := by
  have hF := va_free hD hS hA is hC
  refine va_calli hr hS (fun q _ h => hF q h) hF (fun r u t H1 locs1 ht hvm hp hB hz hk hS1 => ?_)
  rw [ht] at hB
  obtain ⟨h1, h2⟩ := n_join hP hD is hC hk hB (ha u)
  exact kk r u H1 locs1 hp h1 h2 hS1
theorem n_callv {S : Type} {post : S → Prop} {wd : S → va_W} (hr : va_Run p l e R s m args below meth c H locs cells slots mc ms (F0 m pc ls st0) rest (va_Qv post (fun u t => va_P D cl (wd u) t.heap) (va_A wc H.size) a) (va_A wc H.size)) (hP : va_P D cl ws H) (hD : va_D A0 ws) (hS : va_S A0 H0 H locs) (hA : ∀ q : Nat, H0.size ≤ q → A0 q) (is : List Nat) (hC : is.map (fun i => ws[i]?) = wc.map some) (ha : ∀ u : S, (wd u).map Prod.fst = wc.map Prod.fst)
    (kk : ∀ (u : S) (H1 : Heap) (locs1 : List Loc), post u → va_P D cl (n_put ws is (wd u)) H1 → va_D A0 (n_put ws is (wd u)) → va_S A0 H0 H1 locs1 → W p l e R s m args below meth c H1 locs1 (cells + mc) (slots + ms) Q (F0 m (pc + 3) ls rest)) : W p l e R s m args below meth c H locs cells slots Q (F0 m pc ls st0) := by
  have hF := va_free hD hS hA is hC
  refine va_callv hr hS (fun q _ h => hF q h) hF (fun u t H1 locs1 ht hvm hp hB hz hk hS1 => ?_)
  rw [ht] at hB
  obtain ⟨h1, h2⟩ := n_join hP hD is hC hk hB (ha u)
  exact kk u H1 locs1 hp h1 h2 hS1
end NC

section NL
variable {p : Program} {l : Launch} {e : Env} {R : Room} {s : State} {m : MethodId} {args : Array Value} {below : List Frame} {meth : Method} {c : Code} {H : Heap} {locs : List Loc} {cells slots : Nat} {Q : State → Prop}
variable {cc : ByteArray} {pc : Nat} {ls : Array Slot} {rest : List Value}
variable {D : va_G} {cl : List vw_C} {A : Nat → Prop} {a : Nat} {tys : List (ClassId × FieldType)} {ws : va_W} {H0 : Heap}
theorem n_bald (hx : p.tables.exec = Jvm.exec) (hb : c.code = cc) (hK : va_K D cl tys s) (hP : va_P D cl ws H) (q0 t0 : Nat) {cA : ClassId} {n : Nat} {f : Nat → Int32} (ha : ws[q0]? = some (a, .inl (cA, n, .inl f))) (ht : tys[t0]? = some (cA, .byte)) {i : Nat} (hin : i < n) (hn : n < 2147483648) (hdg : decode cc pc = .ok (.baload, 1)) (kk : W p l e R s m args below meth c H locs cells slots Q (F0 m (pc + 1) ls (.int (f i) :: rest))) : W p l e R s m args below meth c H locs cells slots Q (F0 m pc ls (.int (nI i) :: .ref a :: rest)) := va_bald hx hb hK hP q0 t0 ha ht (vp_in_nI hin hn) hdg (by rw [nI_clamp (Nat.lt_trans hin hn)]; exact kk)
theorem n_sald (hx : p.tables.exec = Jvm.exec) (hb : c.code = cc) (hK : va_K D cl tys s) (hP : va_P D cl ws H) (q0 t0 : Nat) {cA : ClassId} {n : Nat} {f : Nat → Int32} (ha : ws[q0]? = some (a, .inl (cA, n, .inl f))) (ht : tys[t0]? = some (cA, .short)) {i : Nat} (hin : i < n) (hn : n < 2147483648) (hdg : decode cc pc = .ok (.saload, 1)) (kk : W p l e R s m args below meth c H locs cells slots Q (F0 m (pc + 1) ls (.int (f i) :: rest))) : W p l e R s m args below meth c H locs cells slots Q (F0 m pc ls (.int (nI i) :: .ref a :: rest)) := va_sald hx hb hK hP q0 t0 ha ht (vp_in_nI hin hn) hdg (by rw [nI_clamp (Nat.lt_trans hin hn)]; exact kk)
theorem n_iald (hx : p.tables.exec = Jvm.exec) (hb : c.code = cc) (hK : va_K D cl tys s) (hP : va_P D cl ws H) (q0 t0 : Nat) {cA : ClassId} {n : Nat} {f : Nat → Int32} (ha : ws[q0]? = some (a, .inl (cA, n, .inl f))) (ht : tys[t0]? = some (cA, .int)) {i : Nat} (hin : i < n) (hn : n < 2147483648) (hdg : decode cc pc = .ok (.iaload, 1)) (kk : W p l e R s m args below meth c H locs cells slots Q (F0 m (pc + 1) ls (.int (f i) :: rest))) : W p l e R s m args below meth c H locs cells slots Q (F0 m pc ls (.int (nI i) :: .ref a :: rest)) := va_iald hx hb hK hP q0 t0 ha ht (vp_in_nI hin hn) hdg (by rw [nI_clamp (Nat.lt_trans hin hn)]; exact kk)
theorem n_bast (hx : p.tables.exec = Jvm.exec) (hb : c.code = cc) (hK : va_K D cl tys s) (hP : va_P D cl ws H) (hD : va_D A ws) (hS : va_S A H0 H locs) (q0 t0 : Nat) {cA : ClassId} {n : Nat} {f : Nat → Int32} (ha : ws[q0]? = some (a, .inl (cA, n, .inl f))) (ht : tys[t0]? = some (cA, .byte)) {i : Nat} {x : Int32} (hin : i < n) (hn : n < 2147483648) (hdg : decode cc pc = .ok (.bastore, 1))
    (kk : ∀ (H1 : Heap) (locs1 : List Loc), va_P D cl (ws.set q0 (a, .inl (cA, n, .inl (upd f i (vp_nar .byte x))))) H1 → va_D A (ws.set q0 (a, .inl (cA, n, .inl (upd f i (vp_nar .byte x))))) → va_S A H0 H1 locs1 → W p l e R s m args below meth c H1 locs1 cells slots Q (F0 m (pc + 1) ls rest)) : W p l e R s m args below meth c H locs cells slots Q (F0 m pc ls (.int x :: .int (nI i) :: .ref a :: rest)) :=
  va_bast hx hb hK hP hD hS q0 t0 ha ht (vp_in_nI hin hn) hdg (by rw [nI_clamp (Nat.lt_trans hin hn)]; exact kk)
theorem n_sast (hx : p.tables.exec = Jvm.exec) (hb : c.code = cc) (hK : va_K D cl tys s) (hP : va_P D cl ws H) (hD : va_D A ws) (hS : va_S A H0 H locs) (q0 t0 : Nat) {cA : ClassId} {n : Nat} {f : Nat → Int32} (ha : ws[q0]? = some (a, .inl (cA, n, .inl f))) (ht : tys[t0]? = some (cA, .short)) {i : Nat} {x : Int32} (hin : i < n) (hn : n < 2147483648) (hdg : decode cc pc = .ok (.sastore, 1))
    (kk : ∀ (H1 : Heap) (locs1 : List Loc), va_P D cl (ws.set q0 (a, .inl (cA, n, .inl (upd f i (vp_nar .short x))))) H1 → va_D A (ws.set q0 (a, .inl (cA, n, .inl (upd f i (vp_nar .short x))))) → va_S A H0 H1 locs1 → W p l e R s m args below meth c H1 locs1 cells slots Q (F0 m (pc + 1) ls rest)) : W p l e R s m args below meth c H locs cells slots Q (F0 m pc ls (.int x :: .int (nI i) :: .ref a :: rest)) :=
  va_sast hx hb hK hP hD hS q0 t0 ha ht (vp_in_nI hin hn) hdg (by rw [nI_clamp (Nat.lt_trans hin hn)]; exact kk)
end NL
end
section
/-! the format of a packed block, in plain numbers; nothing of the machine here -/
def enc (v : Nat) : Nat := if v < 15 then 0 else (v - 15) / 255 + 1
def m15 (v : Nat) : Nat := if v < 15 then v else 15
theorem enc_lo {v : Nat} (h : v < 15) : enc v = 0 := if_pos h
theorem enc_hi {v : Nat} (h : ¬ v < 15) : enc v = (v - 15) / 255 + 1 := if_neg h
theorem m15_lo {v : Nat} (h : v < 15) : m15 v = v := if_pos h
theorem m15_hi {v : Nat} (h : ¬ v < 15) : m15 v = 15 := if_neg h
theorem m15_le (v : Nat) : m15 v ≤ 15 := by
  unfold m15
  split <;> omega
theorem enc_le (v : Nat) : 255 * enc v ≤ v + 240 := by
  unfold enc
  split <;> omega
/-- a byte by its number -/
def by8 (k : Nat) : Int32 := (nI k).toInt8.toInt32
theorem by8_bB (k : Nat) : bB (by8 k) := bB_i2b _
/-- a length's further bytes -/
def zLen (d : Nat → Int32) (p len : Nat) : Prop := (∀ i : Nat, i < len / 255 → d (p + i) = by8 255) ∧ d (p + len / 255) = by8 (len % 255)
def zExt (d : Nat → Int32) (p v : Nat) : Prop := 15 ≤ v → zLen d p (v - 15)
theorem zLen.keep {d d' : Nat → Int32} {p v : Nat} (h : zLen d p v) (hk : ∀ j : Nat, p ≤ j → j < p + (v / 255 + 1) → d' j = d j) : zLen d' p v := by
  obtain ⟨h1, h2⟩ := h
  refine ⟨fun i hi => ?_, ?_⟩
  · rw [hk (p + i) (by omega) (by omega)]
    exact h1 i hi
  · rw [hk _ (by omega) (by omega)]
    exact h2
theorem zExt.keep {d d' : Nat → Int32} {p v : Nat} (h : zExt d p v) (hk : ∀ j : Nat, p ≤ j → j < p + enc v → d' j = d j) : zExt d' p v := by
  intro hv
  have he := enc_hi (v := v) (by omega)
  exact (h hv).keep (fun j h1 h2 => hk j h1 (by omega))
/-- a sequence's first half: token (its low part still nought), the length, the literals -/
def zHalf (src d : Nat → Int32) (s p L : Nat) : Prop := d p = by8 (m15 L * 16) ∧ zExt d (p + 1) L ∧ ∀ i : Nat, i < L → d (p + 1 + enc L + i) = src (s + i)
/-- a whole sequence -/
def zStep (src d : Nat → Int32) (n s p L off M s' p' : Nat) : Prop :=
  d p = by8 (m15 L * 16 + m15 M) ∧ zExt d (p + 1) L ∧ (∀ i : Nat, i < L → d (p + 1 + enc L + i) = src (s + i)) ∧ d (p + 1 + enc L + L) = by8 (off % 256) ∧ d (p + 1 + enc L + L + 1) = by8 (off / 256) ∧ zExt d (p + 1 + enc L + L + 2) M ∧ (1 ≤ off ∧ off ≤ s + L ∧ off < 65536) ∧ (∀ i : Nat, i < M + 4 → src (s + L + i) = src (s + L + i - off)) ∧ s' = s + L + M + 4 ∧ p' = p + 1 + enc L + L + 2 + enc M ∧ s + L + 12 ≤ n ∧ s' + 5 ≤ n
/-- the last literals -/
def zLast (src d : Nat → Int32) (n e s p : Nat) : Prop := zHalf src d s p (n - s) ∧ s ≤ n ∧ e = p + 1 + enc (n - s) + (n - s)
def zPre (src d : Nat → Int32) (n : Nat) : Nat → Nat → Nat → Prop
  | 0, s, p => s = 0 ∧ p = 0
  | k + 1, s', p' => ∃ s p L off M : Nat, zPre src d n k s p ∧ zStep src d n s p L off M s' p'
def zDec (src d : Nat → Int32) (n e : Nat) : Nat → Nat → Nat → Prop
  | 0, s, p => zLast src d n e s p
  | k + 1, s, p => ∃ L off M s' p' : Nat, zStep src d n s p L off M s' p' ∧ zDec src d n e k s' p'
def zBlock (src d : Nat → Int32) (n e : Nat) : Prop := ∃ k : Nat, zDec src d n e k 0 0
theorem zHalf.keep {src d d' : Nat → Int32} {s p L : Nat} (h : zHalf src d s p L) (hk : ∀ j : Nat, p ≤ j → j < p + 1 + enc L + L → d' j = d j) : zHalf src d' s p L := by
  obtain ⟨h1, h2, h3⟩ := h
  refine ⟨?_, h2.keep (fun j a b => hk j (by omega) (by omega)), fun i hi => ?_⟩
  · rw [hk p (by omega) (by omega)]
    exact h1
  · rw [hk _ (by omega) (by omega)]
    exact h3 i hi
theorem zStep.le {src d : Nat → Int32} {n s p L off M s' p' : Nat} (h : zStep src d n s p L off M s' p') : p + 3 ≤ p' ∧ s + 4 ≤ s' ∧ s' + 5 ≤ n := by
  obtain ⟨-, -, -, -, -, -, -, -, h1, h2, -, h3⟩ := h
  omega
theorem zStep.keep {src d d' : Nat → Int32} {n s p L off M s' p' : Nat} (h : zStep src d n s p L off M s' p') (hk : ∀ j : Nat, j < p' → d' j = d j) : zStep src d' n s p L off M s' p' := by
  obtain ⟨h1, h2, h3, h4, h5, h6, h7, h8, h9, h10, h11⟩ := h
  refine ⟨?_, h2.keep (fun j a b => hk j (by omega)), fun i hi => ?_, ?_, ?_, h6.keep (fun j a b => hk j (by omega)), h7, h8, h9, h10, h11⟩
  · rw [hk p (by omega)]
    exact h1
  · rw [hk _ (by omega)]
    exact h3 i hi
  · rw [hk _ (by omega)]
    exact h4
  · rw [hk _ (by omega)]
    exact h5
theorem zPre.keep {src d d' : Nat → Int32} {n : Nat} : ∀ {k s p : Nat}, zPre src d n k s p → (∀ j : Nat, j < p → d' j = d j) → zPre src d' n k s p
  | 0, _, _, h, _ => h
  | k + 1, s', p', ⟨s, p, L, off, M, h1, h2⟩, hk => ⟨s, p, L, off, M, zPre.keep h1 (fun j hj => hk j (by have := h2.le; omega)), h2.keep hk⟩
theorem zPre.bound {src d : Nat → Int32} {n : Nat} : ∀ {k s p : Nat}, zPre src d n k s p → 255 * p ≤ 256 * s
  | 0, _, _, ⟨h1, h2⟩ => by omega
  | k + 1, s', p', ⟨s, p, L, off, M, h1, h2⟩ => by
    have h3 := zPre.bound h1
    obtain ⟨-, -, -, -, -, -, -, -, h4, h5, -⟩ := h2
    have h6 := enc_le L
    have h7 := enc_le M
    by_cases hM : M < 15
    · have h8 := enc_lo hM
      omega
    · omega
theorem zPre.dec {src d : Nat → Int32} {n e : Nat} : ∀ {k j s p : Nat}, zPre src d n k s p → zDec src d n e j s p → zBlock src d n e
  | 0, j, _, _, ⟨h1, h2⟩, h => by
    subst h1
    subst h2
    exact ⟨j, h⟩
  | k + 1, j, s', p', ⟨s, p, L, off, M, h1, h2⟩, h => zPre.dec (j := j + 1) h1 ⟨L, off, M, s', p', h2, h⟩
theorem zDec.room {src d : Nat → Int32} {n e : Nat} : ∀ {k s p : Nat}, zDec src d n e k s p → s + 5 ≤ n → p + 6 ≤ e
  | 0, s, p, ⟨_, h1, h2⟩, h => by omega
  | k + 1, s, p, ⟨L, off, M, s', p', h1, h2⟩, h => by
    have h3 := h1.le
    have h4 := zDec.room h2 (by omega)
    omega
/-- the first half, then offset, length and the token's low part -/
theorem zStep.mk {src d d' : Nat → Int32} {n s p L off M : Nat} (h : zHalf src d s p L) (ht : d' p = by8 (m15 L * 16 + m15 M)) (hk : ∀ j : Nat, p + 1 ≤ j → j < p + 1 + enc L + L → d' j = d j) (h4 : d' (p + 1 + enc L + L) = by8 (off % 256)) (h5 : d' (p + 1 + enc L + L + 1) = by8 (off / 256)) (h6 : zExt d' (p + 1 + enc L + L + 2) M) (h7 : 1 ≤ off ∧ off ≤ s + L ∧ off < 65536) (h8 : ∀ i : Nat, i < M + 4 → src (s + L + i) = src (s + L + i - off)) (h9 : s + L + 12 ≤ n) (h10 : s + L + M + 4 + 5 ≤ n) : zStep src d' n s p L off M (s + L + M + 4) (p + 1 + enc L + L + 2 + enc M) := by
  obtain ⟨-, h2, h3⟩ := h
  refine ⟨ht, h2.keep (fun j a b => hk j (by omega) (by omega)), fun i hi => ?_, h4, h5, h6, h7, h8, rfl, rfl, h9, h10⟩
  rw [hk _ (by omega) (by omega)]
  exact h3 i hi
theorem zBlock.src {src src' d : Nat → Int32} {n e : Nat} (h : zBlock src d n e) (hs : ∀ j : Nat, j < n → src' j = src j) : zBlock src' d n e := by
  obtain ⟨k, h⟩ := h
  refine ⟨k, ?_⟩
  revert h
  generalize (0 : Nat) = s
  suffices H : ∀ (k s p : Nat), zDec src d n e k s p → zDec src' d n e k s p from H k s s
  intro k
  induction k with
  | zero =>
    intro s p h
    obtain ⟨⟨h1, h2, h3⟩, h4, h5⟩ := h
    refine ⟨⟨h1, h2, fun i hi => ?_⟩, h4, h5⟩
    rw [hs _ (by omega)]
    exact h3 i hi
  | succ k ih =>
    intro s p h
    obtain ⟨L, off, M, s', p', ⟨h1, h2, h3, h4, h5, h6, h7, h8, h9, h10, h11, h12⟩, hd⟩ := h
    refine ⟨L, off, M, s', p', ⟨h1, h2, fun i hi => ?_, h4, h5, h6, h7, fun i hi => ?_, h9, h10, h11, h12⟩, ih _ _ hd⟩
    · rw [hs _ (by omega)]
      exact h3 i hi
    · rw [hs _ (by omega), hs _ (by omega)]
      exact h8 i hi
/-! bytes by their numbers -/
theorem by8_m1 : by8 255 = -1 := by decide +kernel
theorem by8_lt : ∀ k : Nat, k < 255 → ¬ by8 k = -1 := by decide +kernel
theorem by8_255 : ∀ k : Nat, k < 256 → by8 k &&& nI 255 = nI k := by decide +kernel
theorem by8_or : ∀ a : Nat, a < 16 → ∀ b : Nat, b < 16 → (by8 (a * 16) ||| nI b).toInt8.toInt32 = by8 (a * 16 + b) := by decide +kernel
theorem by8_nar (k : Nat) : vp_nar .byte (by8 k) = by8 k := bB_id (by8_bB k)
theorem by8_narm1 : vp_nar .byte (-1) = by8 255 := by decide +kernel
theorem by8_m16 : vp_nar .byte (-16) = by8 (15 * 16) := by decide +kernel
/-- the table of places: every entry is a place below B -/
def zTab (t : Nat → Int32) (B : Nat) : Prop := ∀ k : Nat, ∃ v : Nat, v < B ∧ t k &&& 65535 = nI v
theorem sh_and {v : Nat} (h : v < 65536) : vp_nar .short (nI v).toInt16.toInt32 &&& 65535 = nI v := by
  rw [vp_nar_short]
  have e : ∀ x : Int32, x.toInt16.toInt32.toInt16.toInt32 &&& 65535 = x &&& 65535 := by
    intro x
    apply Int32.toBitVec_inj.mp
    simp only [Int32.toBitVec_and, Int16.toBitVec_toInt32, Int32.toBitVec_toInt16]
    ext i hi
    simp only [BitVec.getElem_and]
    have hm : (Int32.toBitVec 65535)[i] = decide (i < 16) := by
      rw [← BitVec.getLsbD_eq_getElem]
      have : ∀ i : Nat, i < 32 → (Int32.toBitVec 65535).getLsbD i = decide (i < 16) := by decide +kernel
      exact this i hi
    rw [hm]
    by_cases h16 : i < 16
    · simp [← BitVec.getLsbD_eq_getElem, BitVec.getLsbD_signExtend, h16, hi]
    · simp [h16]
  rw [e, pk_andN (by omega) 16 (by decide)]
  congr 1
  omega
theorem zTab.zero {B : Nat} (h : 0 < B) : zTab (fun _ => 0) B := fun _ => ⟨0, h, show (0 : Int32) &&& 65535 = nI 0 by decide +kernel⟩
theorem zTab.mono {t : Nat → Int32} {B C : Nat} (h : zTab t B) (hc : B ≤ C) : zTab t C := fun k => by
  obtain ⟨v, h1, h2⟩ := h k
  exact ⟨v, by omega, h2⟩
theorem zTab.put {t : Nat → Int32} {B k v : Nat} (h : zTab t B) (hv : v < B) (hb : B ≤ 65536) : zTab (upd t k (vp_nar .short (nI v).toInt16.toInt32)) B := by
  intro j
  by_cases hj : j = k
  · subst hj
    rw [pk_us]
    exact ⟨v, hv, sh_and (by omega)⟩
  · rw [pk_un hj]
    exact h j
end
section
/-! contracts of SafeUtils and LZ4Utils -/
theorem hash_in (x : Int32) : ∃ k : Nat, k < 8192 ∧ (x.toUInt32 >>> ((nI 19).toUInt32 &&& Int32.toUInt32 31)).toInt32 = nI k := by
  have h := pk_ushr x (nI 19) 19 (by decide +kernel)
  have h2 := x.toBitVec.isLt
  refine ⟨x.toBitVec.toNat / 2 ^ 19, by omega, ?_⟩
  refine Int32.toBitVec_inj.mp (BitVec.eq_of_toNat_eq ?_)
  rw [h, pk_tn (by omega)]
theorem short_le {v : Nat} {x y : Int32} (hv : v < 65536) (h1 : x = by8 (v % 256)) (h2 : y = by8 (v / 256)) : x &&& nI 255 ||| (y &&& nI 255) <<< (nI 8 &&& 31) = nI v := by
  rw [h1, h2, by8_255 _ (by omega), by8_255 _ (by omega), pk_shlN (nI 8 &&& 31) 8 (by decide +kernel) (by omega)]
  have e : ∀ a b : Nat, nI a ||| nI b = nI (a ||| b) := by
    intro a b
    apply Int32.toBitVec_inj.mp
    simp [nI]
  rw [e]
  congr 1
  have h3 : v % 256 ||| v / 256 * 2 ^ 8 = v / 256 * 2 ^ 8 + v % 256 := by
    rw [Nat.or_comm, Nat.mul_comm]
    exact (Nat.two_pow_add_eq_or_of_lt (by omega) _).symm
  rw [h3]
  omega

set_option maxHeartbeats 4000000 in
set_option maxRecDepth 100000 in
theorem mt_checkLength (l : Launch) (D : va_G) (cl : List vw_C) (n : Nat) (hn : n < 2147483648) : Met l yX6_checkLength (ws_ yX6_checkLength cX6_checkLength 1 (none)) ({ frames := 1, cells := 0, slots := 0, locals := 100 }) (pcR [.int (nI n)] D cl [] []) (va_Sv (fun _ => True)) 0 0 (fun _ => False) := by
  refine n_metR (by decide) (Nat.le_of_ble_eq_true rfl) ?_
  intro p e s m below meth c hx hb hr hlocks hml hown hin hts hP hK ls hl
  have hown : s.vm.findClass "SafeUtils" = some m.cls := hown
  have hl : lv_has ls 1 [(0, .int (nI n))] := hl
  refine lv_iload_n hx hb dX6_checkLength_0 rfl (lv_at hl 0 rfl) ?_
  refine n_if_ge (tgt := 14) hx hb dX6_checkLength_1 (by decide) (by omega) ?_
  exact W.vret hx hb hr (fun t ht hW => ⟨rfl, trivial, ht⟩) (fun _ h9 => nomatch h9) dX6_checkLength_14

set_option maxHeartbeats 4000000 in
set_option maxRecDepth 100000 in
theorem mt_checkRange (l : Launch) (D : va_G) (cl : List vw_C) (a0 : Nat) (d0 : ClassId) (N : Nat) (f : Nat → Int32) (o n : Nat) (hN : N < 2147483648) (hon : o + n ≤ N) : Met l yX6_checkRange (ws_ yX6_checkRange cX6_checkRange 3 (none)) ({ frames := 2, cells := 0, slots := 0, locals := 200 }) (pcR [.ref a0, .int (nI o), .int (nI n)] D cl [(a0, .inl (d0, N, .inl f))] [(d0, .byte)]) (va_Sv (fun _ => True)) 0 0 (fun _ => False) := by
  refine n_metR (by decide) (Nat.le_of_ble_eq_true rfl) ?_
  intro p e s m below meth c hx hb hr hlocks hml hown hin hts hP hK ls hl
  have hown : s.vm.findClass "SafeUtils" = some m.cls := hown
  have hl : lv_has ls 3 [(0, .ref a0), (1, .int (nI o)), (2, .int (nI n))] := hl
  refine lv_iload_n hx hb dX6_checkRange_0 rfl (lv_at hl 2 rfl) ?_
  refine va_csv (W.runS (As := [.int (nI n)]) (rest := []) ⟨hx, hb, hml, hown, hts⟩ (mt_checkLength l D cl n (by omega)) (va_cwS 1 hts (lw_S q121 q122 q10 q123) rfl rfl rfl (by decide +kernel) ⟨Nat.le_of_ble_eq_true rfl, Nat.le_of_ble_eq_true rfl⟩) (pcR_pre (hP.sub [] rfl) (hK.sub [] rfl)) rfl rfl hl.1 rfl (lv_room (Nat.le_of_ble_eq_true rfl)) dX6_checkRange_1 ⟨Nat.le_of_ble_eq_true rfl, Nat.le_of_ble_eq_true rfl⟩) (fun _ => ?_)
  refine lv_iload_n hx hb dX6_checkRange_4 rfl (lv_at hl 1 rfl) ?_
  refine n_if_lt (tgt := 16) hx hb dX6_checkRange_5 (by decide) (by omega) ?_
  refine lv_iload_n hx hb dX6_checkRange_8 rfl (lv_at hl 1 rfl) ?_
  refine lv_aload_n hx hb dX6_checkRange_9 rfl (lv_at hl 0 rfl) ?_
  refine va_alen (v := nI N) hx hb hK hP 0 0 rfl rfl rfl dX6_checkRange_10 ?_
  refine lv_iload_n hx hb dX6_checkRange_11 rfl (lv_at hl 2 rfl) ?_
  refine n_isub hx hb dX6_checkRange_12 (by omega) ?_
  refine n_icmp_le (tgt := 26) hx hb dX6_checkRange_13 (by decide) (by omega) (by omega) (fun c__2 => ?_) (fun c__2 => (by exfalso; omega))
  exact W.vret hx hb hr (fun t ht hW => ⟨rfl, trivial, ht⟩) (fun _ h9 => nomatch h9) dX6_checkRange_26

set_option maxHeartbeats 4000000 in
set_option maxRecDepth 100000 in
theorem mt_readByte (l : Launch) (D : va_G) (cl : List vw_C) (a0 : Nat) (d0 : ClassId) (N : Nat) (f : Nat → Int32) (i : Nat) (hN : N < 2147483648) (hi : i < N) (hB : bB (f i)) : Met l yX6_readByte (ws_ yX6_readByte cX6_readByte 2 (some .byte)) ({ frames := 1, cells := 0, slots := 0, locals := 100 }) (pcR [.ref a0, .int (nI i)] D cl [(a0, .inl (d0, N, .inl f))] [(d0, .byte)]) (vp_Si (fun r : Int32 => r = f i)) 0 0 (fun _ => False) := by
  refine n_metR (by decide) (Nat.le_of_ble_eq_true rfl) ?_
  intro p e s m below meth c hx hb hr hlocks hml hown hin hts hP hK ls hl
  have hown : s.vm.findClass "SafeUtils" = some m.cls := hown
  have hl : lv_has ls 2 [(0, .ref a0), (1, .int (nI i))] := hl
  refine lv_aload_n hx hb dX6_readByte_0 rfl (lv_at hl 0 rfl) ?_
  refine lv_iload_n hx hb dX6_readByte_1 rfl (lv_at hl 1 rfl) ?_
  refine n_bald hx hb hK hP 0 0 rfl rfl (by omega) (by omega) dX6_readByte_2 ?_
  exact W.zret (v := f i) hx hb hr (bB_narrow hB) (fun t ht hW => ⟨_, rfl, rfl, ht⟩) (fun _ h9 => nomatch h9) dX6_readByte_3

set_option maxHeartbeats 4000000 in
set_option maxRecDepth 100000 in
theorem mt_readIntLE (l : Launch) (D : va_G) (cl : List vw_C) (a0 : Nat) (d0 : ClassId) (N : Nat) (f : Nat → Int32) (i : Nat) (hN : N < 2147483648) (hi : i + 3 < N) : Met l yX6_readIntLE (ws_ yX6_readIntLE cX6_readIntLE 2 (some .int)) ({ frames := 1, cells := 0, slots := 0, locals := 100 }) (pcR [.ref a0, .int (nI i)] D cl [(a0, .inl (d0, N, .inl f))] [(d0, .byte)]) (vp_Si (fun r : Int32 => True)) 0 0 (fun _ => False) := by
  refine n_metR (by decide) (Nat.le_of_ble_eq_true rfl) ?_
  intro p e s m below meth c hx hb hr hlocks hml hown hin hts hP hK ls hl
  have hown : s.vm.findClass "SafeUtils" = some m.cls := hown
  have hl : lv_has ls 2 [(0, .ref a0), (1, .int (nI i))] := hl
  refine lv_aload_n hx hb dX6_readIntLE_0 rfl (lv_at hl 0 rfl) ?_
  refine lv_iload_n hx hb dX6_readIntLE_1 rfl (lv_at hl 1 rfl) ?_
  refine n_bald hx hb hK hP 0 0 rfl rfl (by omega) (by omega) dX6_readIntLE_2 ?_
  refine lv_sipush (v := nI 255) hx hb dX6_readIntLE_3 (by decide +kernel) ?_
  refine lv_iand hx hb dX6_readIntLE_6 ?_
  refine lv_aload_n hx hb dX6_readIntLE_7 rfl (lv_at hl 0 rfl) ?_
  refine lv_iload_n hx hb dX6_readIntLE_8 rfl (lv_at hl 1 rfl) ?_
  refine lv_iconst (v := nI 1) hx hb dX6_readIntLE_9 (by decide +kernel) ?_
  refine n_iadd hx hb dX6_readIntLE_10 ?_
  refine n_bald hx hb hK hP 0 0 rfl rfl (by omega) (by omega) dX6_readIntLE_11 ?_
  refine lv_sipush (v := nI 255) hx hb dX6_readIntLE_12 (by decide +kernel) ?_
  refine lv_iand hx hb dX6_readIntLE_15 ?_
  refine lv_bipush (v := nI 8) hx hb dX6_readIntLE_16 (by decide +kernel) ?_
  refine lv_ishl hx hb dX6_readIntLE_18 ?_
  refine lv_ior hx hb dX6_readIntLE_19 ?_
  refine lv_aload_n hx hb dX6_readIntLE_20 rfl (lv_at hl 0 rfl) ?_
  refine lv_iload_n hx hb dX6_readIntLE_21 rfl (lv_at hl 1 rfl) ?_
  refine lv_iconst (v := nI 2) hx hb dX6_readIntLE_22 (by decide +kernel) ?_
  refine n_iadd hx hb dX6_readIntLE_23 ?_
  refine n_bald hx hb hK hP 0 0 rfl rfl (by omega) (by omega) dX6_readIntLE_24 ?_
  refine lv_sipush (v := nI 255) hx hb dX6_readIntLE_25 (by decide +kernel) ?_
  refine lv_iand hx hb dX6_readIntLE_28 ?_
  refine lv_bipush (v := nI 16) hx hb dX6_readIntLE_29 (by decide +kernel) ?_
  refine lv_ishl hx hb dX6_readIntLE_31 ?_
  refine lv_ior hx hb dX6_readIntLE_32 ?_
  refine lv_aload_n hx hb dX6_readIntLE_33 rfl (lv_at hl 0 rfl) ?_
  refine lv_iload_n hx hb dX6_readIntLE_34 rfl (lv_at hl 1 rfl) ?_
  refine lv_iconst (v := nI 3) hx hb dX6_readIntLE_35 (by decide +kernel) ?_
  refine n_iadd hx hb dX6_readIntLE_36 ?_
  refine n_bald hx hb hK hP 0 0 rfl rfl (by omega) (by omega) dX6_readIntLE_37 ?_
  refine lv_sipush (v := nI 255) hx hb dX6_readIntLE_38 (by decide +kernel) ?_
  refine lv_iand hx hb dX6_readIntLE_41 ?_
  refine lv_bipush (v := nI 24) hx hb dX6_readIntLE_42 (by decide +kernel) ?_
  refine lv_ishl hx hb dX6_readIntLE_44 ?_
  refine lv_ior hx hb dX6_readIntLE_45 ?_
  exact W.iret (v := ((((f i) &&& (nI 255)) ||| (((f (i + 1)) &&& (nI 255)) <<< (((nI 8) &&& 31)))) ||| (((f (i + 2)) &&& (nI 255)) <<< (((nI 16) &&& 31)))) ||| (((f (i + 3)) &&& (nI 255)) <<< (((nI 24) &&& 31)))) hx hb hr (fun t ht hW => ⟨_, rfl, trivial, ht⟩) (fun _ h9 => nomatch h9) dX6_readIntLE_46

set_option maxHeartbeats 4000000 in
set_option maxRecDepth 100000 in
theorem mt_readInt (l : Launch) (D : va_G) (cl : List vw_C) (a0 : Nat) (d0 : ClassId) (N : Nat) (f : Nat → Int32) (i : Nat) (hN : N < 2147483648) (hi : i + 3 < N) : Met l yX6_readInt (ws_ yX6_readInt cX6_readInt 2 (some .int)) ({ frames := 2, cells := 0, slots := 0, locals := 200 }) (pcR [.ref a0, .int (nI i)] D cl [(a0, .inl (d0, N, .inl f))] [(d0, .byte)]) (vp_Si (fun r : Int32 => True)) 0 0 (fun _ => False) := by
  refine n_metR (by decide) (Nat.le_of_ble_eq_true rfl) ?_
  intro p e s m below meth c hx hb hr hlocks hml hown hin hts hP hK ls hl
  have hown : s.vm.findClass "SafeUtils" = some m.cls := hown
  have hl : lv_has ls 2 [(0, .ref a0), (1, .int (nI i))] := hl
  refine lv_aload_n hx hb dX6_readInt_0 rfl (lv_at hl 0 rfl) ?_
  refine lv_iload_n hx hb dX6_readInt_1 rfl (lv_at hl 1 rfl) ?_
  refine vp_callSi (W.runS (As := [.ref a0, .int (nI i)]) (rest := []) ⟨hx, hb, hml, hown, hts⟩ (mt_readIntLE l D cl a0 d0 N f i hN hi) (va_cwS 2 hts (lw_S q221 q222 q10 q223) rfl rfl rfl (by decide +kernel) ⟨Nat.le_of_ble_eq_true rfl, Nat.le_of_ble_eq_true rfl⟩) (pcR_pre (hP.sub [0] rfl) (hK.sub [0] rfl)) rfl rfl hl.1 rfl (lv_room (Nat.le_of_ble_eq_true rfl)) dX6_readInt_2 ⟨Nat.le_of_ble_eq_true rfl, Nat.le_of_ble_eq_true rfl⟩) (fun r_1 _ => ?_)
  exact W.iret (v := r_1) hx hb hr (fun t ht hW => ⟨_, rfl, trivial, ht⟩) (fun _ h9 => nomatch h9) dX6_readInt_5

set_option maxHeartbeats 4000000 in
set_option maxRecDepth 100000 in
theorem mt_readShort (l : Launch) (D : va_G) (cl : List vw_C) (a0 : Nat) (d0 : ClassId) (N : Nat) (f : Nat → Int32) (i : Nat) (hN : N < 2147483648) (hi : i < N) : Met l yX6_readShort (ws_ yX6_readShort cX6_readShort 2 (some .int)) ({ frames := 1, cells := 0, slots := 0, locals := 100 }) (pcR [.ref a0, .int (nI i)] D cl [(a0, .inl (d0, N, .inl f))] [(d0, .short)]) (vp_Si (fun r : Int32 => r = f i &&& 65535)) 0 0 (fun _ => False) := by
  refine n_metR (by decide) (Nat.le_of_ble_eq_true rfl) ?_
  intro p e s m below meth c hx hb hr hlocks hml hown hin hts hP hK ls hl
  have hown : s.vm.findClass "SafeUtils" = some m.cls := hown
  have hl : lv_has ls 2 [(0, .ref a0), (1, .int (nI i))] := hl
  refine lv_aload_n hx hb dX6_readShort_0 rfl (lv_at hl 0 rfl) ?_
  refine lv_iload_n hx hb dX6_readShort_1 rfl (lv_at hl 1 rfl) ?_
  refine n_sald hx hb hK hP 0 0 rfl rfl (by omega) (by omega) dX6_readShort_2 ?_
  refine lv_ldc hx hb hown (hts _ q231) dX6_readShort_3 ?_
  refine lv_iand hx hb dX6_readShort_5 ?_
  exact W.iret (v := (f i) &&& 65535) hx hb hr (fun t ht hW => ⟨_, rfl, rfl, ht⟩) (fun _ h9 => nomatch h9) dX6_readShort_6

set_option maxHeartbeats 4000000 in
set_option maxRecDepth 100000 in
theorem mt_writeShort (l : Launch) (D : va_G) (cl : List vw_C) (a0 : Nat) (d0 : ClassId) (N : Nat) (f : Nat → Int32) (i v : Nat) (hN : N < 2147483648) (hi : i < N) (sz : Nat) : Met l yX6_writeShort (ws_ yX6_writeShort cX6_writeShort 3 (none)) ({ frames := 1, cells := 0, slots := 0, locals := 100 }) (pcW [.ref a0, .int (nI i), .int (nI v)] D cl [(a0, .inl (d0, N, .inl f))] [(d0, .short)] sz) (va_Qv (fun (u : Nat → Int32) => u = upd f i (vp_nar .short (nI v).toInt16.toInt32)) (fun (u : Nat → Int32) t => va_P D cl [(a0, .inl (d0, N, .inl u))] t.heap) (va_A [(a0, .inl (d0, N, .inl f))] sz)) 0 0 (va_A [(a0, .inl (d0, N, .inl f))] sz) := by
  refine n_metW (Qc := fun A => va_Qv (fun (u : Nat → Int32) => u = upd f i (vp_nar .short (nI v).toInt16.toInt32)) (fun (u : Nat → Int32) t => va_P D cl [(a0, .inl (d0, N, .inl u))] t.heap) A) (by decide) (Nat.le_of_ble_eq_true rfl) ?_
  intro p e s m below meth c hx hb hr hlocks hml hown hin hts hP hK A hsz hD hA hS ls hl
  have hown : s.vm.findClass "SafeUtils" = some m.cls := hown
  have hl : lv_has ls 3 [(0, .ref a0), (1, .int (nI i)), (2, .int (nI v))] := hl
  refine lv_aload_n hx hb dX6_writeShort_0 rfl (lv_at hl 0 rfl) ?_
  refine lv_iload_n hx hb dX6_writeShort_1 rfl (lv_at hl 1 rfl) ?_
  refine lv_iload_n hx hb dX6_writeShort_2 rfl (lv_at hl 2 rfl) ?_
  refine lv_i2s hx hb dX6_writeShort_3 rfl ?_
  refine n_sast hx hb hK hP hD hS 0 0 rfl rfl (by omega) (by omega) dX6_writeShort_4 (fun H locs hP hD hS => ?_)
  have hP : va_P D cl [(a0, .inl (d0, N, .inl (upd f i (vp_nar .short ((nI v).toInt16.toInt32)))))] H := hP
  have hD : va_D A [(a0, .inl (d0, N, .inl (upd f i (vp_nar .short ((nI v).toInt16.toInt32)))))] := hD
  exact W.vret hx hb hr (fun t ht hW => ⟨⟨_, rfl, rfl, n_hP ht hP⟩, hS.F ht⟩) hS.2.2 dX6_writeShort_5

set_option maxHeartbeats 4000000 in
set_option maxRecDepth 100000 in
theorem mt_writeByte (l : Launch) (D : va_G) (cl : List vw_C) (a0 : Nat) (d0 : ClassId) (N : Nat) (f : Nat → Int32) (i : Nat) (v w : Int32) (hN : N < 2147483648) (hi : i < N) (hv : v.toInt8.toInt32 = w) (sz : Nat) : Met l yX6_writeByte (ws_ yX6_writeByte cX6_writeByte 3 (none)) ({ frames := 1, cells := 0, slots := 0, locals := 100 }) (pcW [.ref a0, .int (nI i), .int v] D cl [(a0, .inl (d0, N, .inl f))] [(d0, .byte)] sz) (va_Qv (fun (u : Nat → Int32) => u = upd f i w) (fun (u : Nat → Int32) t => va_P D cl [(a0, .inl (d0, N, .inl u))] t.heap) (va_A [(a0, .inl (d0, N, .inl f))] sz)) 0 0 (va_A [(a0, .inl (d0, N, .inl f))] sz) := by
  refine n_metW (Qc := fun A => va_Qv (fun (u : Nat → Int32) => u = upd f i w) (fun (u : Nat → Int32) t => va_P D cl [(a0, .inl (d0, N, .inl u))] t.heap) A) (by decide) (Nat.le_of_ble_eq_true rfl) ?_
  intro p e s m below meth c hx hb hr hlocks hml hown hin hts hP hK A hsz hD hA hS ls hl
  have hown : s.vm.findClass "SafeUtils" = some m.cls := hown
  have hl : lv_has ls 3 [(0, .ref a0), (1, .int (nI i)), (2, .int v)] := hl
  refine lv_aload_n hx hb dX6_writeByte_0 rfl (lv_at hl 0 rfl) ?_
  refine lv_iload_n hx hb dX6_writeByte_1 rfl (lv_at hl 1 rfl) ?_
  refine lv_iload_n hx hb dX6_writeByte_2 rfl (lv_at hl 2 rfl) ?_
  refine lv_i2b hx hb dX6_writeByte_3 hv ?_
  refine n_bast hx hb hK hP hD hS 0 0 rfl rfl (by omega) (by omega) dX6_writeByte_4 (fun H locs hP hD hS => ?_)
  have hP : va_P D cl [(a0, .inl (d0, N, .inl (upd f i (vp_nar .byte w))))] H := hP
  have hD : va_D A [(a0, .inl (d0, N, .inl (upd f i (vp_nar .byte w))))] := hD
  have hu : upd f i (vp_nar .byte w) = upd f i w := by rw [← hv, pk_vb]
  exact W.vret hx hb hr (fun t ht hW => ⟨⟨_, rfl, hu, n_hP ht hP⟩, hS.F ht⟩) hS.2.2 dX6_writeByte_5

set_option maxHeartbeats 4000000 in
set_option maxRecDepth 100000 in
theorem mt_writeShortLE (l : Launch) (D : va_G) (cl : List vw_C) (a0 : Nat) (d0 : ClassId) (N : Nat) (f : Nat → Int32) (i : Nat) (v w1 w2 : Int32) (hN : N < 2147483648) (hi : i + 1 < N) (h1 : v.toInt8.toInt32 = w1) (h2 : ((v.toUInt32 >>> ((nI 8).toUInt32 &&& Int32.toUInt32 31)).toInt32).toInt8.toInt32 = w2) (sz : Nat) : Met l yX6_writeShortLE (ws_ yX6_writeShortLE cX6_writeShortLE 3 (none)) ({ frames := 1, cells := 0, slots := 0, locals := 100 }) (pcW [.ref a0, .int (nI i), .int v] D cl [(a0, .inl (d0, N, .inl f))] [(d0, .byte)] sz) (va_Qv (fun (u : Nat → Int32) => u = upd (upd f i w1) (i + 1) w2) (fun (u : Nat → Int32) t => va_P D cl [(a0, .inl (d0, N, .inl u))] t.heap) (va_A [(a0, .inl (d0, N, .inl f))] sz)) 0 0 (va_A [(a0, .inl (d0, N, .inl f))] sz) := by
  refine n_metW (Qc := fun A => va_Qv (fun (u : Nat → Int32) => u = upd (upd f i w1) (i + 1) w2) (fun (u : Nat → Int32) t => va_P D cl [(a0, .inl (d0, N, .inl u))] t.heap) A) (by decide) (Nat.le_of_ble_eq_true rfl) ?_
  intro p e s m below meth c hx hb hr hlocks hml hown hin hts hP hK A hsz hD hA hS ls hl
  have hown : s.vm.findClass "SafeUtils" = some m.cls := hown
  have hl : lv_has ls 3 [(0, .ref a0), (1, .int (nI i)), (2, .int v)] := hl
  refine lv_aload_n hx hb dX6_writeShortLE_0 rfl (lv_at hl 0 rfl) ?_
  refine lv_iload_n hx hb dX6_writeShortLE_1 rfl (lv_at hl 1 rfl) ?_
  refine lv_iinc (v := nI (i + 1)) (lv' := [(1, .int (nI (i + 1))), (0, .ref a0), (2, .int v)]) hx hb dX6_writeShortLE_2 hl (k := 1) rfl (n_inc _ 1 (by decide +kernel)) (by decide) rfl (fun ls hl => ?_)
  refine lv_iload_n hx hb dX6_writeShortLE_5 rfl (lv_at hl 2 rfl) ?_
  refine lv_i2b hx hb dX6_writeShortLE_6 rfl ?_
  refine n_bast hx hb hK hP hD hS 0 0 rfl rfl (by omega) (by omega) dX6_writeShortLE_7 (fun H locs hP hD hS => ?_)
  have hP : va_P D cl [(a0, .inl (d0, N, .inl (upd f i (vp_nar .byte ((v).toInt8.toInt32)))))] H := hP
  have hD : va_D A [(a0, .inl (d0, N, .inl (upd f i (vp_nar .byte ((v).toInt8.toInt32)))))] := hD
  refine lv_aload_n hx hb dX6_writeShortLE_8 rfl (lv_at hl 1 rfl) ?_
  refine lv_iload_n hx hb dX6_writeShortLE_9 rfl (lv_at hl 0 rfl) ?_
  refine lv_iinc (v := nI ((i + 1) + 1)) (lv' := [(1, .int (nI ((i + 1) + 1))), (0, .ref a0), (2, .int v)]) hx hb dX6_writeShortLE_10 hl (k := 0) rfl (n_inc _ 1 (by decide +kernel)) (by decide) rfl (fun ls hl => ?_)
  refine lv_iload_n hx hb dX6_writeShortLE_13 rfl (lv_at hl 2 rfl) ?_
  refine lv_bipush (v := nI 8) hx hb dX6_writeShortLE_14 (by decide +kernel) ?_
  refine lv_iushr hx hb dX6_writeShortLE_16 rfl ?_
  refine lv_i2b hx hb dX6_writeShortLE_17 rfl ?_
  refine n_bast hx hb hK hP hD hS 0 0 rfl rfl (by omega) (by omega) dX6_writeShortLE_18 (fun H locs hP hD hS => ?_)
  have hP : va_P D cl [(a0, .inl (d0, N, .inl (upd (upd f i (vp_nar .byte ((v).toInt8.toInt32))) (i + 1) (vp_nar .byte ((((v).toUInt32 >>> ((nI 8).toUInt32 &&& Int32.toUInt32 31)).toInt32).toInt8.toInt32)))))] H := hP
  have hD : va_D A [(a0, .inl (d0, N, .inl (upd (upd f i (vp_nar .byte ((v).toInt8.toInt32))) (i + 1) (vp_nar .byte ((((v).toUInt32 >>> ((nI 8).toUInt32 &&& Int32.toUInt32 31)).toInt32).toInt8.toInt32)))))] := hD
  have hu : upd (upd f i (vp_nar .byte ((v).toInt8.toInt32))) (i + 1) (vp_nar .byte ((((v).toUInt32 >>> ((nI 8).toUInt32 &&& Int32.toUInt32 31)).toInt32).toInt8.toInt32)) = upd (upd f i w1) (i + 1) w2 := by rw [← h1, ← h2, pk_vb, pk_vb]
  exact W.vret hx hb hr (fun t ht hW => ⟨⟨_, rfl, hu, n_hP ht hP⟩, hS.F ht⟩) hS.2.2 dX6_writeShortLE_19

set_option maxHeartbeats 4000000 in
set_option maxRecDepth 100000 in
theorem mt_readShortLE (l : Launch) (D : va_G) (cl : List vw_C) (a0 : Nat) (d0 : ClassId) (N : Nat) (f : Nat → Int32) (i v : Nat) (hN : N < 2147483648) (hi : i + 1 < N) (hv : v < 65536) (h1 : f i = by8 (v % 256)) (h2 : f (i + 1) = by8 (v / 256)) : Met l yX6_readShortLE (ws_ yX6_readShortLE cX6_readShortLE 2 (some .int)) ({ frames := 1, cells := 0, slots := 0, locals := 100 }) (pcR [.ref a0, .int (nI i)] D cl [(a0, .inl (d0, N, .inl f))] [(d0, .byte)]) (vp_Si (fun r : Int32 => r = nI v)) 0 0 (fun _ => False) := by
  refine n_metR (by decide) (Nat.le_of_ble_eq_true rfl) ?_
  intro p e s m below meth c hx hb hr hlocks hml hown hin hts hP hK ls hl
  have hown : s.vm.findClass "SafeUtils" = some m.cls := hown
  have hl : lv_has ls 2 [(0, .ref a0), (1, .int (nI i))] := hl
  refine lv_aload_n hx hb dX6_readShortLE_0 rfl (lv_at hl 0 rfl) ?_
  refine lv_iload_n hx hb dX6_readShortLE_1 rfl (lv_at hl 1 rfl) ?_
  refine n_bald hx hb hK hP 0 0 rfl rfl (by omega) (by omega) dX6_readShortLE_2 ?_
  refine lv_sipush (v := nI 255) hx hb dX6_readShortLE_3 (by decide +kernel) ?_
  refine lv_iand hx hb dX6_readShortLE_6 ?_
  refine lv_aload_n hx hb dX6_readShortLE_7 rfl (lv_at hl 0 rfl) ?_
  refine lv_iload_n hx hb dX6_readShortLE_8 rfl (lv_at hl 1 rfl) ?_
  refine lv_iconst (v := nI 1) hx hb dX6_readShortLE_9 (by decide +kernel) ?_
  refine n_iadd hx hb dX6_readShortLE_10 ?_
  refine n_bald hx hb hK hP 0 0 rfl rfl (by omega) (by omega) dX6_readShortLE_11 ?_
  refine lv_sipush (v := nI 255) hx hb dX6_readShortLE_12 (by decide +kernel) ?_
  refine lv_iand hx hb dX6_readShortLE_15 ?_
  refine lv_bipush (v := nI 8) hx hb dX6_readShortLE_16 (by decide +kernel) ?_
  refine lv_ishl hx hb dX6_readShortLE_18 ?_
  refine lv_ior hx hb dX6_readShortLE_19 ?_
  exact W.iret (v := ((f i) &&& (nI 255)) ||| (((f (i + 1)) &&& (nI 255)) <<< (((nI 8) &&& 31)))) hx hb hr (fun t ht hW => ⟨_, rfl, short_le hv h1 h2, ht⟩) (fun _ h9 => nomatch h9) dX6_readShortLE_20

set_option maxHeartbeats 4000000 in
set_option maxRecDepth 100000 in
theorem mt_hash64k (l : Launch) (D : va_G) (cl : List vw_C) (x : Int32) : Met l yX7_hash64k (ws_ yX7_hash64k cX7_hash64k 1 (some .int)) ({ frames := 1, cells := 0, slots := 0, locals := 100 }) (pcR [.int x] D cl [] []) (vp_Si (fun r : Int32 => ∃ k : Nat, k < 8192 ∧ r = nI k)) 0 0 (fun _ => False) := by
  refine n_metR (by decide) (Nat.le_of_ble_eq_true rfl) ?_
  intro p e s m below meth c hx hb hr hlocks hml hown hin hts hP hK ls hl
  have hown : s.vm.findClass "LZ4Utils" = some m.cls := hown
  have hl : lv_has ls 1 [(0, .int x)] := hl
  refine lv_iload_n hx hb dX7_hash64k_0 rfl (lv_at hl 0 rfl) ?_
  refine lv_ldc hx hb hown (hts _ q227) dX7_hash64k_1 ?_
  refine lv_imul hx hb dX7_hash64k_3 ?_
  refine lv_bipush (v := nI 19) hx hb dX7_hash64k_4 (by decide +kernel) ?_
  refine lv_iushr hx hb dX7_hash64k_6 rfl ?_
  exact W.iret (v := ((x * (-1640531535)).toUInt32 >>> ((nI 19).toUInt32 &&& Int32.toUInt32 31)).toInt32) hx hb hr (fun t ht hW => ⟨_, rfl, hash_in _, ht⟩) (fun _ h9 => nomatch h9) dX7_hash64k_7

set_option maxHeartbeats 4000000 in
set_option maxRecDepth 100000 in
theorem mt_encLen (l : Launch) (D : va_G) (cl : List vw_C) (n : Nat) (hn : n < 2147483648) : Met l yX7_lengthOfEncodedInteger (ws_ yX7_lengthOfEncodedInteger cX7_lengthOfEncodedInteger 1 (some .int)) ({ frames := 1, cells := 0, slots := 0, locals := 100 }) (pcR [.int (nI n)] D cl [] []) (vp_Si (fun r : Int32 => r = nI (enc n))) 0 0 (fun _ => False) := by
  refine n_metR (by decide) (Nat.le_of_ble_eq_true rfl) ?_
  intro p e s m below meth c hx hb hr hlocks hml hown hin hts hP hK ls hl
  have hown : s.vm.findClass "LZ4Utils" = some m.cls := hown
  have hl : lv_has ls 1 [(0, .int (nI n))] := hl
  refine lv_iload_n hx hb dX7_lengthOfEncodedInteger_0 rfl (lv_at hl 0 rfl) ?_
  refine lv_bipush (v := nI 15) hx hb dX7_lengthOfEncodedInteger_1 (by decide +kernel) ?_
  refine n_icmp_lt (tgt := 17) hx hb dX7_lengthOfEncodedInteger_3 (by decide) (by omega) (by omega) (fun c__1 => ?_) (fun c__1 => ?_)
  · refine lv_iconst (v := nI 0) hx hb dX7_lengthOfEncodedInteger_17 (by decide +kernel) ?_
    exact W.iret (v := nI 0) hx hb hr (fun t ht hW => ⟨_, rfl, by rw [enc_lo c__1], ht⟩) (fun _ h9 => nomatch h9) dX7_lengthOfEncodedInteger_18
  · refine lv_iload_n hx hb dX7_lengthOfEncodedInteger_6 rfl (lv_at hl 0 rfl) ?_
    refine lv_bipush (v := nI 15) hx hb dX7_lengthOfEncodedInteger_7 (by decide +kernel) ?_
    refine n_isub hx hb dX7_lengthOfEncodedInteger_9 (by omega) ?_
    refine lv_sipush (v := nI 255) hx hb dX7_lengthOfEncodedInteger_10 (by decide +kernel) ?_
    refine n_idiv hx hb dX7_lengthOfEncodedInteger_13 (by omega) (by omega) (by omega) ?_
    refine lv_iconst (v := nI 1) hx hb dX7_lengthOfEncodedInteger_14 (by decide +kernel) ?_
    refine n_iadd hx hb dX7_lengthOfEncodedInteger_15 ?_
    exact W.iret (v := nI (((n - 15) / 255) + 1)) hx hb hr (fun t ht hW => ⟨_, rfl, by rw [enc_hi (by omega)], ht⟩) (fun _ h9 => nomatch h9) dX7_lengthOfEncodedInteger_16

set_option maxHeartbeats 4000000 in
set_option maxRecDepth 100000 in
theorem mt_notEnough (l : Launch) (D : va_G) (cl : List vw_C) (a b : Nat) (ha : a < 2147483648) (hb0 : b < 2147483648) : Met l yX7_notEnoughSpace (ws_ yX7_notEnoughSpace cX7_notEnoughSpace 2 (some .boolean)) ({ frames := 1, cells := 0, slots := 0, locals := 100 }) (pcR [.int (nI a), .int (nI b)] D cl [] []) (vp_Si (fun r : Int32 => r = if a < b then 1 else 0)) 0 0 (fun _ => False) := by
  refine n_metR (by decide) (Nat.le_of_ble_eq_true rfl) ?_
  intro p e s m below meth c hx hb hr hlocks hml hown hin hts hP hK ls hl
  have hown : s.vm.findClass "LZ4Utils" = some m.cls := hown
  have hl : lv_has ls 2 [(0, .int (nI a)), (1, .int (nI b))] := hl
  refine lv_iload_n hx hb dX7_notEnoughSpace_0 rfl (lv_at hl 1 rfl) ?_
  refine n_if_ge (tgt := 6) hx hb dX7_notEnoughSpace_1 (by decide) (by omega) ?_
  refine lv_iload_n hx hb dX7_notEnoughSpace_6 rfl (lv_at hl 0 rfl) ?_
  refine lv_iload_n hx hb dX7_notEnoughSpace_7 rfl (lv_at hl 1 rfl) ?_
  refine n_icmp_ge (tgt := 15) hx hb dX7_notEnoughSpace_8 (by decide) (by omega) (by omega) (fun c__2 => ?_) (fun c__2 => ?_)
  · refine lv_iconst (v := nI 0) hx hb dX7_notEnoughSpace_15 (by decide +kernel) ?_
    exact W.zret (v := nI 0) hx hb hr rfl (fun t ht hW => ⟨_, rfl, by rw [if_neg (by omega)]; rfl, ht⟩) (fun _ h9 => nomatch h9) dX7_notEnoughSpace_16
  · refine lv_iconst (v := nI 1) hx hb dX7_notEnoughSpace_11 (by decide +kernel) ?_
    refine lv_goto (tgt := 16) hx hb dX7_notEnoughSpace_12 (by decide) ?_
    exact W.zret (v := nI 1) hx hb hr rfl (fun t ht hW => ⟨_, rfl, by rw [if_pos c__2]; rfl, ht⟩) (fun _ h9 => nomatch h9) dX7_notEnoughSpace_16
end
section
/-! ===== BEGIN a static call of a method with an exception table ===== -/
section VXS
variable {p : Program} {l : Launch} {e : Env} {R : Room} {s : State} {m : MethodId} {args : Array Value} {below : List Frame} {meth : Method} {c : Code} {T : State} {H : Heap} {locs : List Loc} {cells slots : Nat}
abbrev vx_CSW (R : Room) (s : State) (args : Array Value) (own : String) (index : Nat) (y : MethodName) (bytes : ByteArray) (maxL : Nat) (ret : Option FieldType) (hh : List (Nat × Nat × Nat × Nat)) (ws : List Cond) (rm : Room) (mc ms n : Nat) : Prop :=
  (rm.cells = mc ∧ rm.slots = ms ∧ rm.frames + 1 ≤ R.frames ∧ 8 + (maxL + 11) + rm.locals ≤ R.locals ∧ (∀ w ∈ ws, ∀ (a' : Array Value) (U : State), s.WarmedH U.vm → w.before a' U = true) ∧ Cond.codeWith y bytes maxL ret hh ∈ ws) ∧
  (Cond.codeWith y bytes maxL ret hh).before args s = true ∧ (Cond.initialized y.cls).before args s = true ∧ (y.cls ≠ "java/lang/invoke/MethodHandle" ∧ y.cls ≠ "java/lang/invoke/VarHandle") ∧
  (∀ sig, parseMethodDescriptor y.desc = some sig → n = sig.parameters.length) ∧ (Cond.methodLink own index y).before args s = true ∧ (Cond.static y).before args s = true
theorem vx_cwSW {own : String} {index maxL mc ms : Nat} {y : MethodName} {bytes : ByteArray} {ret : Option FieldType} {hh : List (Nat × Nat × Nat × Nat)} {Ts ws ws' : List Cond} {rm : Room} (n : Nat) (ht : ∀ w ∈ Ts, w.before args s = true) (hT : GoodIn Ts (va_wsS own index y ws)) (hw : ws = Cond.codeWith y bytes maxL ret hh :: ws') (hrc : rm.cells = mc) (hrs : rm.slots = ms)
    (hd : y.cls ≠ "java/lang/invoke/MethodHandle" ∧ y.cls ≠ "java/lang/invoke/VarHandle" ∧ (parseMethodDescriptor y.desc).map (fun d => d.parameters.length) = some n) (hR : rm.frames + 1 ≤ R.frames ∧ 8 + (maxL + 11) + rm.locals ≤ R.locals) :
    vx_CSW R s args own index y bytes maxL ret hh ws rm mc ms n := by
  have ok : ∀ w ∈ va_wsS own index y ws, w.before args s = true := fun w h => ht w (hT w h).1
  have hG : GoodIn Ts ws := fun w h => hT w (by unfold va_wsS; exact List.mem_append_right _ h)
  have hc : Cond.codeWith y bytes maxL ret hh ∈ ws := by rw [hw]; exact List.mem_cons_self
  refine ⟨⟨hrc, hrs, hR.1, hR.2, pay_in ht hG, hc⟩, ht _ (hG _ hc).1, ok _ (by simp [va_wsS]), ⟨hd.1, hd.2.1⟩, fun sig h => ?_, ok _ (by simp [va_wsS]), ok _ (by simp [va_wsS])⟩
  have h2 := hd.2.2
  rw [h] at h2
  exact (Option.some.inj h2).symm
theorem vx_callSW (X : Stand p l e R s m args below meth c T locs cells slots) (hexec : p.tables.exec = Jvm.exec) {own : String} {index : Nat} {y : MethodName} {bytes : ByteArray} {maxL : Nat} {ret : Option FieldType} {hh : List (Nat × Nat × Nat × Nat)}
    (hown : s.vm.findClass own = some m.cls) (hlink : (Cond.methodLink own index y).before args s = true) (hstat : (Cond.static y).before args s = true) (hinit : (Cond.initialized y.cls).before args s = true)
    (hcode : (Cond.codeWith y bytes maxL ret hh).before args s = true) (hy : y.cls ≠ "java/lang/invoke/MethodHandle" ∧ y.cls ≠ "java/lang/invoke/VarHandle")
    {W9 : Nat} {Pre : Pt → Array Value → Prop} {Post : Pt → Array Value → Option Value → Pt → Prop} (hK : Back l R p e below s args y 3 W9 Pre Post)
    {g : JFrame} (hg : g.method = m) (hsize : g.locals.size = c.maxLocals) {argsL rest : List Value} (hlen : ∀ sig, parseMethodDescriptor y.desc = some sig → argsL.length = sig.parameters.length)
    (hstack : g.stack = argsL.reverse ++ rest) (hW : 2 * g.monitorRoom + (rest.map fun v => v.category).sum ≤ W9) (hdg : decode c.code g.pc = .ok (.invokestatic index, 3))
    (hpre : ∀ vm₁, s.WarmedH vm₁ → Pre ⟨T.setVm vm₁, locs, cells, slots⟩ argsL.toArray) :
    ∃ (v : Option Value) (vm₁ : Vm) (B : Pt), s.WarmedH vm₁ ∧ Stand p l e R s m args below meth c B.U B.locs B.cells B.slots ∧ Post ⟨T.setVm vm₁, locs, cells, slots⟩ argsL.toArray v B ∧
      ∀ target, Steps p.tables e below (B.U.setTop { g with pc := g.pc + 3, stack := v.toList ++ rest }) target → Steps p.tables e below (T.setTop g) target := by
  obtain ⟨mk, methM, cM, hnamed, hmethM, -, -, -, -, -, -, hsigM⟩ := Cond.codeWith_spec hcode
  have hstatic : methM.isStatic = true := Cond.static_spec hnamed hmethM hstat
  obtain ⟨kP, hkP, -⟩ := className_of_methodNamed hnamed
  have hinitP : kP.init = .initialized := Cond.initialized_spec (findClass_of_methodNamed hnamed) hkP hinit
  obtain ⟨vm₁, X₁, hstep₁⟩ := X.invokestatic hexec hown hlink hnamed hmethM hstatic hkP hinitP hy (g := g) hg (argsL := argsL) (rest := rest) (hlen _ hsigM) hstack hdg
  obtain ⟨v, B, X', hpost, hsteps⟩ := hK m meth c ⟨T.setVm vm₁, locs, cells, slots⟩ { g with stack := rest } (.invokestatic index) mk argsL.toArray X₁ hg hsize hdg hW (X₁.named hnamed) (hpre vm₁ X₁.warmed)
  exact ⟨v, vm₁, B, X₁.warmed, X', hpost, fun target h => hstep₁ _ fun acts => by rw [doInvoke_state]; exact hsteps.trans h⟩
theorem vx_runSW {y : MethodName} {bytes cc : ByteArray} {maxL nL mc ms n index : Nat} {ret : Option FieldType} {hh : List (Nat × Nat × Nat × Nat)} {ws : List Cond} {rm : Room} {Pc : Array Value → State → Prop} {Qc : Array Value → State → Outcome → State → Prop} {free : Addr → Prop} {Ts : List Cond} {own : String} {As rest : List Value} {g : JFrame}
    (S : CallFix p m c cc nL s args Ts own) (hM : Met l y ws rm Pc Qc mc ms free) (cw : vx_CSW R s args own index y bytes maxL ret hh ws rm mc ms n) (hp : PreS s H Pc As)
    (hg : g.method = m) (hn : As.length = n) (hsize : g.locals.size = nL) (hstack : g.stack = As.reverse ++ rest) (hW : 2 * g.monitorRoom + (rest.map fun v => v.category).sum ≤ 8) (hdg : decode cc g.pc = .ok (.invokestatic index, 3)) (hf : cells + mc ≤ R.cells ∧ slots + ms ≤ R.slots) :
    va_Run p l e R s m args below meth c H locs cells slots mc ms g rest (Qc As.toArray) (free) := by
  obtain ⟨⟨hrc, hrs, hfr, hlo, hws, hcw⟩, hcode, hini, hy, hlen, hl, hstt⟩ := cw
  have hK : Back l R p e below s args y 3 8 (PreOf R mc ms Pc) (PostOf Qc mc ms free) := va_backW (hh := hh) (bytes := bytes) (maxL := maxL) (ret := ret) hM hp.1 hrc hrs hfr hlo hws hcw (fun a' U hW => word_at hW (Or.inl (by first | rfl | simp [Cond.onTables, Cond.keeps, Cond.steady])) hini)
  obtain ⟨hx, hb, hml, ho, -⟩ := S
  intro T hT X
  obtain ⟨v, vm₁, ⟨U', l2, c2, s2⟩, hW₁, X', ⟨g', mk, t, L, e1, e2, hq, h1, hL, h2, h3⟩, st⟩ := vx_callSW X hx (hh := hh) (bytes := bytes) (maxL := maxL) (ret := ret) ho hl hstt hini hcode hy hK hg (hsize.trans hml.symm) (argsL := As) (rest := rest) (fun sig h => hn.trans (hlen sig h)) hstack hW (by rw [hb]; exact hdg)
    (fun vm₁ hW₁ => ⟨hf.1, hf.2, hp.2 (T.setVm vm₁) hT hW₁⟩)
  dsimp only [Pt.U, Pt.locs, Pt.cells, Pt.slots] at X' e1 e2 h1 h2 h3 st
  subst h1; subst h2; subst h3
  exact ⟨v, (T.setVm vm₁).calling g' mk As.toArray, t, U', L, hT, X', hL, e1, e2, hq, st⟩
end VXS
end
section
/-! contracts of LZ4SafeUtils -/
/-- an array of bytes -/
def aB (f : Nat → Int32) : Prop := ∀ j : Nat, bB (f j)
theorem aB_0 : aB (fun _ => 0) := fun _ => show (0 : Int32).toInt8.toInt32 = 0 by decide +kernel
theorem aB_upd {f : Nat → Int32} {k : Nat} {x : Int32} (h : aB f) (hx : bB x) : aB (upd f k x) := by
  intro j
  by_cases hj : j = k
  · subst hj
    rw [pk_us]
    exact hx
  · rw [pk_un hj]
    exact h j
theorem aB_cpy {f g : Nat → Int32} {a b n : Nat} (hf : aB f) (hg : aB g) : aB (va_cpy f g a b n) := by
  intro j
  unfold va_cpy
  split
  · exact hf _
  · exact hg j
theorem cpy_in9 {f g : Nat → Int32} {a b n i : Nat} (h : i < n) : va_cpy f g a b n (b + i) = f (a + i) := by
  rw [pk_cpy_in (by omega) (by omega)]
  congr 1
  omega
theorem inc_step {h : Nat → Int32} {so q i : Nat} (hs : so < q) (h2 : ∀ j : Nat, j < i → h (q + j) = h (so + j)) (hh : aB h) : ∀ j : Nat, j < i + 1 → upd h (q + i) (vp_nar .byte (h (so + i))) (q + j) = upd h (q + i) (vp_nar .byte (h (so + i))) (so + j) := by
  intro j hj
  rw [pk_un (j := so + j) (by omega)]
  rcases Nat.lt_or_ge j i with h9 | h9
  · rw [pk_un (by omega)]
    exact h2 j h9
  · rw [show j = i by omega, pk_us]
    exact bB_id (hh _)
theorem shl4 {w : Nat} (h : w * 16 < 4294967296) : nI w <<< (nI 4 &&& 31) = nI (w * 16) := pk_shlN (nI 4 &&& 31) 4 (by decide +kernel) h
section NCP
variable {p : Program} {l : Launch} {e : Env} {R : Room} {s : State} {m : MethodId} {args : Array Value} {below : List Frame} {meth : Method} {c : Code} {H : Heap} {locs : List Loc} {cells slots : Nat} {Q : State → Prop}
variable {cc : ByteArray} {pc : Nat} {ls : Array Slot} {rest : List Value} {D : va_G} {cl : List vw_C} {A : Nat → Prop} {a : Nat} {tys : List (ClassId × FieldType)} {ws : va_W} {H0 : Heap}
theorem n_copy (hexec : p.tables.exec = Jvm.exec) (hb : c.code = cc) (hml : c.maxLocals = ls.size) {own : String} {index : Nat} (hown : s.vm.findClass own = some m.cls) (hlink : (Cond.methodLink own index arraycopyName).before args s = true) (hnat : (Cond.native arraycopyName).before args s = true) (hstat : (Cond.static arraycopyName).before args s = true) (hini : (Cond.initialized "java/lang/System").before args s = true)
    (hK : va_K D cl tys s) (hP : va_P D cl ws H) (hD : va_D A ws) (hS : va_S A H0 H locs) (q0 q1 t0 t1 : Nat) {a0 : Nat} {c0 c1 : ClassId} {n0 n1 : Nat} {f g : Nat → Int32} (ha0 : ws[q0]? = some (a0, .inl (c0, n0, .inl f))) (ha1 : ws[q1]? = some (a, .inl (c1, n1, .inl g))) (ht0 : tys[t0]? = some (c0, .byte)) (ht1 : tys[t1]? = some (c1, .byte))
    {sp dp n : Nat} (h4 : sp + n ≤ n0) (h5 : dp + n ≤ n1) (h6 : n0 < 2147483648) (h7 : n1 < 2147483648) (hfit : ∀ i : Nat, i < n → fits .byte (.int (f (sp + i))) = true)
    (hframes : 1 ≤ R.frames) (hlocals : (rest.map fun v => v.category).sum + (nativeFrameWords "java/lang/System" "arraycopy" 5 + 11) ≤ R.locals) (hdg : decode cc pc = .ok (.invokestatic index, 3))
    (kk : ∀ (H1 : Heap) (locs1 : List Loc), va_P D cl (ws.set q1 (a, .inl (c1, n1, .inl (va_cpy f g sp dp n)))) H1 → va_D A (ws.set q1 (a, .inl (c1, n1, .inl (va_cpy f g sp dp n)))) → va_S A H0 H1 locs1 → W p l e R s m args below meth c H1 locs1 cells slots Q (F0 m (pc + 3) ls rest)) : W p l e R s m args below meth c H locs cells slots Q (F0 m pc ls (.int (nI n) :: .int (nI dp) :: .ref a :: .int (nI sp) :: .ref a0 :: rest)) := by
  have e1 : (nI sp).toNatClampNeg = sp := nI_clamp (by omega)
  have e2 : (nI dp).toNatClampNeg = dp := nI_clamp (by omega)
  have e3 : (nI n).toNatClampNeg = n := nI_clamp (by omega)
  refine va_copyi (ty := .byte) hexec hb hml hown hlink hnat hstat hini hK hP hD hS q0 q1 t0 t1 ha0 ha1 ht0 ht1 rfl (nI_pos (by omega)) (nI_pos (by omega)) (nI_pos (by omega)) (by rw [e1, e3]; exact h4) (by rw [e2, e3]; exact h5) (by rw [e1, e3]; exact hfit) hframes hlocals hdg ?_
  rw [e1, e2, e3]
  exact kk
end NCP

set_option maxHeartbeats 4000000 in
set_option maxRecDepth 100000 in
theorem mt_commonBytes (l : Launch) (D : va_G) (cl : List vw_C) (a0 : Nat) (d0 : ClassId) (N : Nat) (f : Nat → Int32) (o1 o2 lim : Nat) (hN : N < 2147483648) (h12 : o1 ≤ o2) (h2 : o2 ≤ lim) (hlim : lim ≤ N) : Met l yX8_commonBytes (ws_ yX8_commonBytes cX8_commonBytes 5 (some .int)) ({ frames := 1, cells := 0, slots := 0, locals := 100 }) (pcR [.ref a0, .int (nI o1), .int (nI o2), .int (nI lim)] D cl [(a0, .inl (d0, N, .inl f))] [(d0, .byte)]) (vp_Si (fun r : Int32 => ∃ k : Nat, r = nI k ∧ o2 + k ≤ lim ∧ (∀ i : Nat, i < k → f (o1 + i) = f (o2 + i)) ∧ (o2 + k < lim → ¬ f (o1 + k) = f (o2 + k)))) 0 0 (fun _ => False) := by
  refine n_metR (by decide) (Nat.le_of_ble_eq_true rfl) ?_
  intro p e s m below meth c hx hb hr hlocks hml hown hin hts hP hK ls hl
  have hown : s.vm.findClass "LZ4SafeUtils" = some m.cls := hown
  have hl : lv_has ls 5 [(0, .ref a0), (1, .int (nI o1)), (2, .int (nI o2)), (3, .int (nI lim))] := hl
  refine lv_iconst (v := nI 0) hx hb dX8_commonBytes_0 (by decide +kernel) ?_
  refine lv_istore (lv' := [(4, .int (nI 0)), (0, .ref a0), (1, .int (nI o1)), (2, .int (nI o2)), (3, .int (nI lim))]) hx hb dX8_commonBytes_1 hl (by decide) rfl (fun ls hl => ?_)
  refine n_loopAt 3 (fun n H locs ls cells slots => ∃ k : Nat, ∃ x1 : Nat, ∃ x2 : Nat, (n = lim - x2) ∧ (x1 = o1 + k) ∧ (x2 = o2 + k) ∧ (o2 + k ≤ lim) ∧ (∀ i : Nat, i < k → f (o1 + i) = f (o2 + i)) ∧ lv_has ls 5 [(0, .ref a0), (1, .int (nI x1)), (2, .int (nI x2)), (3, .int (nI lim)), (4, .int (nI k))] ∧ H = s.heap ∧ locs = [] ∧ cells = 0 ∧ slots = 0) (lim - o2) ⟨0, o1, o2, rfl, rfl, rfl, by omega, fun i hi => absurd hi (by omega), (lv_sub hl [1, 2, 3, 4, 0] rfl), rfl, rfl, rfl, rfl⟩ ?_
  intro n ih H locs ls cells slots hI
  obtain ⟨k, x1, x2, hn, hx1, hx2, hk, hf, hl, rfl, rfl, rfl, rfl⟩ := hI
  refine lv_iload_n hx hb dX8_commonBytes_3 rfl (lv_at hl 2 rfl) ?_
  refine lv_iload_n hx hb dX8_commonBytes_4 rfl (lv_at hl 3 rfl) ?_
  refine n_icmp_ge (tgt := 29) hx hb dX8_commonBytes_5 (by decide) (by omega) (by omega) (fun c__1 => ?_) (fun c__1 => ?_)
  · refine lv_iload hx hb dX8_commonBytes_29 (lv_at hl 4 rfl) ?_
    exact W.iret (v := nI k) hx hb hr (fun t ht hW => ⟨_, rfl, ⟨k, rfl, hk, hf, fun h9 => absurd h9 (by omega)⟩, ht⟩) (fun _ h9 => nomatch h9) dX8_commonBytes_31
  · refine lv_aload_n hx hb dX8_commonBytes_8 rfl (lv_at hl 0 rfl) ?_
    refine lv_iload_n hx hb dX8_commonBytes_9 rfl (lv_at hl 1 rfl) ?_
    refine lv_iinc (v := nI (x1 + 1)) (lv' := [(1, .int (nI (x1 + 1))), (0, .ref a0), (2, .int (nI x2)), (3, .int (nI lim)), (4, .int (nI k))]) hx hb dX8_commonBytes_10 hl (k := 1) rfl (n_inc _ 1 (by decide +kernel)) (by decide) rfl (fun ls hl => ?_)
    refine n_bald hx hb hK hP 0 0 rfl rfl (by omega) (by omega) dX8_commonBytes_13 ?_
    refine lv_aload_n hx hb dX8_commonBytes_14 rfl (lv_at hl 1 rfl) ?_
    refine lv_iload_n hx hb dX8_commonBytes_15 rfl (lv_at hl 2 rfl) ?_
    refine lv_iinc (v := nI (x2 + 1)) (lv' := [(2, .int (nI (x2 + 1))), (1, .int (nI (x1 + 1))), (0, .ref a0), (3, .int (nI lim)), (4, .int (nI k))]) hx hb dX8_commonBytes_16 hl (k := 2) rfl (n_inc _ 1 (by decide +kernel)) (by decide) rfl (fun ls hl => ?_)
    refine n_bald hx hb hK hP 0 0 rfl rfl (by omega) (by omega) dX8_commonBytes_19 ?_
    refine lv_icmp_ne (tgt := 29) hx hb dX8_commonBytes_20 (by decide) (fun c__2 => ?_) (fun c__2 => ?_)
    · refine lv_iload hx hb dX8_commonBytes_29 (lv_at hl 4 rfl) ?_
      exact W.iret (v := nI k) hx hb hr (fun t ht hW => ⟨_, rfl, ⟨k, rfl, hk, hf, fun _ h9 => c__2 (by rw [hx1, hx2]; exact h9)⟩, ht⟩) (fun _ h9 => nomatch h9) dX8_commonBytes_31
    · refine lv_iinc (v := nI (k + 1)) (lv' := [(4, .int (nI (k + 1))), (2, .int (nI (x2 + 1))), (1, .int (nI (x1 + 1))), (0, .ref a0), (3, .int (nI lim))]) hx hb dX8_commonBytes_23 hl (k := 4) rfl (n_inc _ 1 (by decide +kernel)) (by decide) rfl (fun ls hl => ?_)
      refine lv_goto (tgt := 3) hx hb dX8_commonBytes_26 (by decide) ?_
      refine ih (lim - (x2 + 1)) (by omega) _ _ _ _ _ ⟨k + 1, x1 + 1, x2 + 1, rfl, by omega, by omega, by omega, fun i hi => ?_, (lv_sub hl [3, 2, 1, 4, 0] rfl), rfl, rfl, rfl, rfl⟩
      rcases Nat.lt_or_ge i k with h9 | h9
      · exact hf i h9
      · have h8 : i = k := by omega
        rw [h8, ← hx1, ← hx2]; exact c__2

set_option maxHeartbeats 4000000 in
set_option maxRecDepth 100000 in
theorem mt_commonBack (l : Launch) (D : va_G) (cl : List vw_C) (a0 : Nat) (d0 : ClassId) (N : Nat) (f : Nat → Int32) (o1 o2 l2 : Nat) (hN : N < 2147483648) (h12 : o1 ≤ o2) (h2 : l2 ≤ o2) (ho : o2 ≤ N) : Met l yX8_commonBytesBackward (ws_ yX8_commonBytesBackward cX8_commonBytesBackward 6 (some .int)) ({ frames := 1, cells := 0, slots := 0, locals := 100 }) (pcR [.ref a0, .int (nI o1), .int (nI o2), .int (nI 0), .int (nI l2)] D cl [(a0, .inl (d0, N, .inl f))] [(d0, .byte)]) (vp_Si (fun r : Int32 => ∃ k : Nat, r = nI k ∧ k ≤ o1 ∧ k + l2 ≤ o2 ∧ ∀ i : Nat, i < k → f (o1 - k + i) = f (o2 - k + i))) 0 0 (fun _ => False) := by
  refine n_metR (by decide) (Nat.le_of_ble_eq_true rfl) ?_
  intro p e s m below meth c hx hb hr hlocks hml hown hin hts hP hK ls hl
  have hown : s.vm.findClass "LZ4SafeUtils" = some m.cls := hown
  have hl : lv_has ls 6 [(0, .ref a0), (1, .int (nI o1)), (2, .int (nI o2)), (3, .int (nI 0)), (4, .int (nI l2))] := hl
  refine lv_iconst (v := nI 0) hx hb dX8_commonBytesBackward_0 (by decide +kernel) ?_
  refine lv_istore (lv' := [(5, .int (nI 0)), (0, .ref a0), (1, .int (nI o1)), (2, .int (nI o2)), (3, .int (nI 0)), (4, .int (nI l2))]) hx hb dX8_commonBytesBackward_1 hl (by decide) rfl (fun ls hl => ?_)
  refine n_loopAt 3 (fun n H locs ls cells slots => ∃ k : Nat, ∃ x1 : Nat, ∃ x2 : Nat, (n = x1) ∧ (x1 + k = o1) ∧ (x2 + k = o2) ∧ (l2 ≤ x2) ∧ (∀ i : Nat, i < k → f (x1 + i) = f (x2 + i)) ∧ lv_has ls 6 [(0, .ref a0), (1, .int (nI x1)), (2, .int (nI x2)), (3, .int (nI 0)), (4, .int (nI l2)), (5, .int (nI k))] ∧ H = s.heap ∧ locs = [] ∧ cells = 0 ∧ slots = 0) o1 ⟨0, o1, o2, rfl, rfl, rfl, h2, fun i hi => absurd hi (by omega), (lv_sub hl [1, 2, 3, 4, 5, 0] rfl), rfl, rfl, rfl, rfl⟩ ?_
  intro n ih H locs ls cells slots hI
  obtain ⟨k, x1, x2, hn, hx1, hx2, hk, hf, hl, rfl, rfl, rfl, rfl⟩ := hI
  have e1 : o1 - k = x1 := by omega
  have e2 : o2 - k = x2 := by omega
  refine lv_iload_n hx hb dX8_commonBytesBackward_3 rfl (lv_at hl 1 rfl) ?_
  refine lv_iload_n hx hb dX8_commonBytesBackward_4 rfl (lv_at hl 3 rfl) ?_
  refine n_icmp_le (tgt := 35) hx hb dX8_commonBytesBackward_5 (by decide) (by omega) (by omega) (fun c__1 => ?_) (fun c__1 => ?_)
  · refine lv_iload hx hb dX8_commonBytesBackward_35 (lv_at hl 5 rfl) ?_
    exact W.iret (v := nI k) hx hb hr (fun t ht hW => ⟨_, rfl, ⟨k, rfl, by omega, by omega, by rw [e1, e2]; exact hf⟩, ht⟩) (fun _ h9 => nomatch h9) dX8_commonBytesBackward_37
  · refine lv_iload_n hx hb dX8_commonBytesBackward_8 rfl (lv_at hl 2 rfl) ?_
    refine lv_iload hx hb dX8_commonBytesBackward_9 (lv_at hl 4 rfl) ?_
    refine n_icmp_le (tgt := 35) hx hb dX8_commonBytesBackward_11 (by decide) (by omega) (by omega) (fun c__2 => ?_) (fun c__2 => ?_)
    · refine lv_iload hx hb dX8_commonBytesBackward_35 (lv_at hl 5 rfl) ?_
      exact W.iret (v := nI k) hx hb hr (fun t ht hW => ⟨_, rfl, ⟨k, rfl, by omega, by omega, by rw [e1, e2]; exact hf⟩, ht⟩) (fun _ h9 => nomatch h9) dX8_commonBytesBackward_37
    · refine lv_aload_n hx hb dX8_commonBytesBackward_14 rfl (lv_at hl 0 rfl) ?_
      refine lv_iinc (v := nI (x1 - 1)) (lv' := [(1, .int (nI (x1 - 1))), (0, .ref a0), (2, .int (nI x2)), (3, .int (nI 0)), (4, .int (nI l2)), (5, .int (nI k))]) hx hb dX8_commonBytesBackward_15 hl (k := 1) rfl (n_dec _ 1 (by decide +kernel) (by omega)) (by decide) rfl (fun ls hl => ?_)
      refine lv_iload_n hx hb dX8_commonBytesBackward_18 rfl (lv_at hl 0 rfl) ?_
      refine n_bald hx hb hK hP 0 0 rfl rfl (by omega) (by omega) dX8_commonBytesBackward_19 ?_
      refine lv_aload_n hx hb dX8_commonBytesBackward_20 rfl (lv_at hl 1 rfl) ?_
      refine lv_iinc (v := nI (x2 - 1)) (lv' := [(2, .int (nI (x2 - 1))), (1, .int (nI (x1 - 1))), (0, .ref a0), (3, .int (nI 0)), (4, .int (nI l2)), (5, .int (nI k))]) hx hb dX8_commonBytesBackward_21 hl (k := 2) rfl (n_dec _ 1 (by decide +kernel) (by omega)) (by decide) rfl (fun ls hl => ?_)
      refine lv_iload_n hx hb dX8_commonBytesBackward_24 rfl (lv_at hl 0 rfl) ?_
      refine n_bald hx hb hK hP 0 0 rfl rfl (by omega) (by omega) dX8_commonBytesBackward_25 ?_
      refine lv_icmp_ne (tgt := 35) hx hb dX8_commonBytesBackward_26 (by decide) (fun c__3 => ?_) (fun c__3 => ?_)
      · refine lv_iload hx hb dX8_commonBytesBackward_35 (lv_at hl 5 rfl) ?_
        exact W.iret (v := nI k) hx hb hr (fun t ht hW => ⟨_, rfl, ⟨k, rfl, by omega, by omega, by rw [e1, e2]; exact hf⟩, ht⟩) (fun _ h9 => nomatch h9) dX8_commonBytesBackward_37
      · refine lv_iinc (v := nI (k + 1)) (lv' := [(5, .int (nI (k + 1))), (2, .int (nI (x2 - 1))), (1, .int (nI (x1 - 1))), (0, .ref a0), (3, .int (nI 0)), (4, .int (nI l2))]) hx hb dX8_commonBytesBackward_29 hl (k := 5) rfl (n_inc _ 1 (by decide +kernel)) (by decide) rfl (fun ls hl => ?_)
        refine lv_goto (tgt := 3) hx hb dX8_commonBytesBackward_32 (by decide) ?_
        refine ih (x1 - 1) (by omega) _ _ _ _ _ ⟨k + 1, x1 - 1, x2 - 1, rfl, by omega, by omega, by omega, fun i hi => ?_, (lv_sub hl [3, 2, 1, 4, 5, 0] rfl), rfl, rfl, rfl, rfl⟩
        rcases Nat.eq_zero_or_pos i with h9 | h9
        · rw [h9]; exact c__3
        · have h7 := hf (i - 1) (by omega)
          rw [show x1 - 1 + i = x1 + (i - 1) by omega, show x2 - 1 + i = x2 + (i - 1) by omega]; exact h7

set_option maxHeartbeats 4000000 in
set_option maxRecDepth 100000 in
theorem mt_intEq (l : Launch) (D : va_G) (cl : List vw_C) (a0 : Nat) (d0 : ClassId) (N : Nat) (f : Nat → Int32) (i j : Nat) (hN : N < 2147483648) (hi : i + 3 < N) (hj : j + 3 < N) : Met l yX8_readIntEquals (ws_ yX8_readIntEquals cX8_readIntEquals 3 (some .boolean)) ({ frames := 1, cells := 0, slots := 0, locals := 100 }) (pcR [.ref a0, .int (nI i), .int (nI j)] D cl [(a0, .inl (d0, N, .inl f))] [(d0, .byte)]) (vp_Si (fun r : Int32 => (r = 1 ∧ ∀ k : Nat, k < 4 → f (i + k) = f (j + k)) ∨ r = 0)) 0 0 (fun _ => False) := by
  refine n_metR (by decide) (Nat.le_of_ble_eq_true rfl) ?_
  intro p e s m below meth c hx hb hr hlocks hml hown hin hts hP hK ls hl
  have hown : s.vm.findClass "LZ4SafeUtils" = some m.cls := hown
  have hl : lv_has ls 3 [(0, .ref a0), (1, .int (nI i)), (2, .int (nI j))] := hl
  refine lv_aload_n hx hb dX8_readIntEquals_0 rfl (lv_at hl 0 rfl) ?_
  refine lv_iload_n hx hb dX8_readIntEquals_1 rfl (lv_at hl 1 rfl) ?_
  refine n_bald hx hb hK hP 0 0 rfl rfl (by omega) (by omega) dX8_readIntEquals_2 ?_
  refine lv_aload_n hx hb dX8_readIntEquals_3 rfl (lv_at hl 0 rfl) ?_
  refine lv_iload_n hx hb dX8_readIntEquals_4 rfl (lv_at hl 2 rfl) ?_
  refine n_bald hx hb hK hP 0 0 rfl rfl (by omega) (by omega) dX8_readIntEquals_5 ?_
  refine lv_icmp_ne (tgt := 52) hx hb dX8_readIntEquals_6 (by decide) (fun c__1 => ?_) (fun c__1 => ?_)
  · refine lv_iconst (v := nI 0) hx hb dX8_readIntEquals_52 (by decide +kernel) ?_
    exact W.zret (v := nI 0) hx hb hr rfl (fun t ht hW => ⟨_, rfl, Or.inr rfl, ht⟩) (fun _ h9 => nomatch h9) dX8_readIntEquals_53
  · refine lv_aload_n hx hb dX8_readIntEquals_9 rfl (lv_at hl 0 rfl) ?_
    refine lv_iload_n hx hb dX8_readIntEquals_10 rfl (lv_at hl 1 rfl) ?_
    refine lv_iconst (v := nI 1) hx hb dX8_readIntEquals_11 (by decide +kernel) ?_
    refine n_iadd hx hb dX8_readIntEquals_12 ?_
    refine n_bald hx hb hK hP 0 0 rfl rfl (by omega) (by omega) dX8_readIntEquals_13 ?_
    refine lv_aload_n hx hb dX8_readIntEquals_14 rfl (lv_at hl 0 rfl) ?_
    refine lv_iload_n hx hb dX8_readIntEquals_15 rfl (lv_at hl 2 rfl) ?_
    refine lv_iconst (v := nI 1) hx hb dX8_readIntEquals_16 (by decide +kernel) ?_
    refine n_iadd hx hb dX8_readIntEquals_17 ?_
    refine n_bald hx hb hK hP 0 0 rfl rfl (by omega) (by omega) dX8_readIntEquals_18 ?_
    refine lv_icmp_ne (tgt := 52) hx hb dX8_readIntEquals_19 (by decide) (fun c__2 => ?_) (fun c__2 => ?_)
    · refine lv_iconst (v := nI 0) hx hb dX8_readIntEquals_52 (by decide +kernel) ?_
      exact W.zret (v := nI 0) hx hb hr rfl (fun t ht hW => ⟨_, rfl, Or.inr rfl, ht⟩) (fun _ h9 => nomatch h9) dX8_readIntEquals_53
    · refine lv_aload_n hx hb dX8_readIntEquals_22 rfl (lv_at hl 0 rfl) ?_
      refine lv_iload_n hx hb dX8_readIntEquals_23 rfl (lv_at hl 1 rfl) ?_
      refine lv_iconst (v := nI 2) hx hb dX8_readIntEquals_24 (by decide +kernel) ?_
      refine n_iadd hx hb dX8_readIntEquals_25 ?_
      refine n_bald hx hb hK hP 0 0 rfl rfl (by omega) (by omega) dX8_readIntEquals_26 ?_
      refine lv_aload_n hx hb dX8_readIntEquals_27 rfl (lv_at hl 0 rfl) ?_
      refine lv_iload_n hx hb dX8_readIntEquals_28 rfl (lv_at hl 2 rfl) ?_
      refine lv_iconst (v := nI 2) hx hb dX8_readIntEquals_29 (by decide +kernel) ?_
      refine n_iadd hx hb dX8_readIntEquals_30 ?_
      refine n_bald hx hb hK hP 0 0 rfl rfl (by omega) (by omega) dX8_readIntEquals_31 ?_
      refine lv_icmp_ne (tgt := 52) hx hb dX8_readIntEquals_32 (by decide) (fun c__3 => ?_) (fun c__3 => ?_)
      · refine lv_iconst (v := nI 0) hx hb dX8_readIntEquals_52 (by decide +kernel) ?_
        exact W.zret (v := nI 0) hx hb hr rfl (fun t ht hW => ⟨_, rfl, Or.inr rfl, ht⟩) (fun _ h9 => nomatch h9) dX8_readIntEquals_53
      · refine lv_aload_n hx hb dX8_readIntEquals_35 rfl (lv_at hl 0 rfl) ?_
        refine lv_iload_n hx hb dX8_readIntEquals_36 rfl (lv_at hl 1 rfl) ?_
        refine lv_iconst (v := nI 3) hx hb dX8_readIntEquals_37 (by decide +kernel) ?_
        refine n_iadd hx hb dX8_readIntEquals_38 ?_
        refine n_bald hx hb hK hP 0 0 rfl rfl (by omega) (by omega) dX8_readIntEquals_39 ?_
        refine lv_aload_n hx hb dX8_readIntEquals_40 rfl (lv_at hl 0 rfl) ?_
        refine lv_iload_n hx hb dX8_readIntEquals_41 rfl (lv_at hl 2 rfl) ?_
        refine lv_iconst (v := nI 3) hx hb dX8_readIntEquals_42 (by decide +kernel) ?_
        refine n_iadd hx hb dX8_readIntEquals_43 ?_
        refine n_bald hx hb hK hP 0 0 rfl rfl (by omega) (by omega) dX8_readIntEquals_44 ?_
        refine lv_icmp_ne (tgt := 52) hx hb dX8_readIntEquals_45 (by decide) (fun c__4 => ?_) (fun c__4 => ?_)
        · refine lv_iconst (v := nI 0) hx hb dX8_readIntEquals_52 (by decide +kernel) ?_
          exact W.zret (v := nI 0) hx hb hr rfl (fun t ht hW => ⟨_, rfl, Or.inr rfl, ht⟩) (fun _ h9 => nomatch h9) dX8_readIntEquals_53
        · have hall : ∀ k : Nat, k < 4 → f (i + k) = f (j + k) := by
            intro k hk
            rcases (show k = 0 ∨ k = 1 ∨ k = 2 ∨ k = 3 by omega) with rfl | rfl | rfl | rfl
            · exact c__1
            · exact c__2
            · exact c__3
            · exact c__4
          refine lv_iconst (v := nI 1) hx hb dX8_readIntEquals_48 (by decide +kernel) ?_
          refine lv_goto (tgt := 53) hx hb dX8_readIntEquals_49 (by decide) ?_
          exact W.zret (v := nI 1) hx hb hr rfl (fun t ht hW => ⟨_, rfl, Or.inl ⟨rfl, hall⟩, ht⟩) (fun _ h9 => nomatch h9) dX8_readIntEquals_53

set_option maxHeartbeats 4000000 in
set_option maxRecDepth 100000 in
theorem mt_writeLen (l : Launch) (D : va_G) (cl : List vw_C) (a0 : Nat) (d0 : ClassId) (N : Nat) (g : Nat → Int32) (v q : Nat) (hN : N < 2147483648) (hq : q + v / 255 < N) (hv : v < 2147483648) (hg : aB g) (sz : Nat) : Met l yX8_writeLen (ws_ yX8_writeLen cX8_writeLen 3 (some .int)) ({ frames := 1, cells := 0, slots := 0, locals := 100 }) (pcW [.int (nI v), .ref a0, .int (nI q)] D cl [(a0, .inl (d0, N, .inl g))] [(d0, .byte)] sz) (va_Qi (fun (r : Int32) (u : Nat → Int32) => r = nI (q + v / 255 + 1) ∧ (∀ j : Nat, j < q → u j = g j) ∧ zLen u q v ∧ aB u) (fun (u : Nat → Int32) t => va_P D cl [(a0, .inl (d0, N, .inl u))] t.heap) (va_A [(a0, .inl (d0, N, .inl g))] sz)) 0 0 (va_A [(a0, .inl (d0, N, .inl g))] sz) := by
  refine n_metW (Qc := fun A => va_Qi (fun (r : Int32) (u : Nat → Int32) => r = nI (q + v / 255 + 1) ∧ (∀ j : Nat, j < q → u j = g j) ∧ zLen u q v ∧ aB u) (fun (u : Nat → Int32) t => va_P D cl [(a0, .inl (d0, N, .inl u))] t.heap) A) (by decide) (Nat.le_of_ble_eq_true rfl) ?_
  intro p e s m below meth c hx hb hr hlocks hml hown hin hts hP hK A hsz hD hA hS ls hl
  have hown : s.vm.findClass "LZ4SafeUtils" = some m.cls := hown
  have hl : lv_has ls 3 [(0, .int (nI v)), (1, .ref a0), (2, .int (nI q))] := hl
  refine n_loopAt 0 (fun n H locs ls cells slots => ∃ i : Nat, ∃ x : Nat, ∃ y : Nat, ∃ f : Nat → Int32, (n = x) ∧ (x + 255 * i = v) ∧ (y = q + i) ∧ (∀ j : Nat, j < q → f j = g j) ∧ (∀ j : Nat, j < i → f (q + j) = by8 255) ∧ (aB f) ∧ lv_has ls 3 [(0, .int (nI x)), (1, .ref a0), (2, .int (nI y))] ∧ va_P D cl [(a0, .inl (d0, N, .inl f))] H ∧ va_D A [(a0, .inl (d0, N, .inl f))] ∧ va_S A s.heap H locs ∧ cells = 0 ∧ slots = 0) v ⟨0, v, q, g, rfl, by omega, rfl, fun _ _ => rfl, fun j hj => absurd hj (by omega), hg, (lv_sub hl [0, 1, 2] rfl), hP, hD, hS, rfl, rfl⟩ ?_
  intro n ih H locs ls cells slots hI
  obtain ⟨i, x, y, f, hn, hx1, hy, hf1, hf2, hf, hl, hP, hD, hS, rfl, rfl⟩ := hI
  refine lv_iload_n hx hb dX8_writeLen_0 rfl (lv_at hl 0 rfl) ?_
  refine lv_sipush (v := nI 255) hx hb dX8_writeLen_1 (by decide +kernel) ?_
  refine n_icmp_lt (tgt := 23) hx hb dX8_writeLen_4 (by decide) (by omega) (by omega) (fun c__1 => ?_) (fun c__1 => ?_)
  · refine lv_aload_n hx hb dX8_writeLen_23 rfl (lv_at hl 1 rfl) ?_
    refine lv_iload_n hx hb dX8_writeLen_24 rfl (lv_at hl 2 rfl) ?_
    refine lv_iinc (v := nI (y + 1)) (lv' := [(2, .int (nI (y + 1))), (0, .int (nI x)), (1, .ref a0)]) hx hb dX8_writeLen_25 hl (k := 2) rfl (n_inc _ 1 (by decide +kernel)) (by decide) rfl (fun ls hl => ?_)
    refine lv_iload_n hx hb dX8_writeLen_28 rfl (lv_at hl 1 rfl) ?_
    refine lv_i2b hx hb dX8_writeLen_29 rfl ?_
    refine n_bast hx hb hK hP hD hS 0 0 rfl rfl (by omega) (by omega) dX8_writeLen_30 (fun H locs hP hD hS => ?_)
    have hP : va_P D cl [(a0, .inl (d0, N, .inl (upd f y (vp_nar .byte ((nI x).toInt8.toInt32)))))] H := hP
    have hD : va_D A [(a0, .inl (d0, N, .inl (upd f y (vp_nar .byte ((nI x).toInt8.toInt32)))))] := hD
    refine lv_iload_n hx hb dX8_writeLen_31 rfl (lv_at hl 0 rfl) ?_
    have e1 : v / 255 = i := by omega
    have e2 : v % 255 = x := by omega
    refine n_top (b := q + v / 255 + 1) (by omega) ?_
    refine W.eq (g2 := F0 m 32 ls [.int (nI (q + v / 255 + 1))]) rfl ?_
    have hpost : (∀ j : Nat, j < q → upd f y (vp_nar .byte (nI x).toInt8.toInt32) j = g j) ∧ zLen (upd f y (vp_nar .byte (nI x).toInt8.toInt32)) q v ∧ aB (upd f y (vp_nar .byte (nI x).toInt8.toInt32)) := by
      refine ⟨fun j hj => ?_, ⟨fun j hj => ?_, ?_⟩, aB_upd hf (bB_nar _)⟩
      · rw [pk_un (by omega)]; exact hf1 j hj
      · rw [pk_un (by omega)]; exact hf2 j (by omega)
      · rw [e1, ← hy, pk_us, e2]; exact by8_nar x
    exact W.iret (v := nI (q + v / 255 + 1)) hx hb hr (fun t ht hW => ⟨⟨nI (q + v / 255 + 1), _, rfl, ⟨rfl, hpost⟩, n_hP ht hP⟩, hS.F ht⟩) hS.2.2 dX8_writeLen_32
  · refine lv_aload_n hx hb dX8_writeLen_7 rfl (lv_at hl 1 rfl) ?_
    refine lv_iload_n hx hb dX8_writeLen_8 rfl (lv_at hl 2 rfl) ?_
    refine lv_iinc (v := nI (y + 1)) (lv' := [(2, .int (nI (y + 1))), (0, .int (nI x)), (1, .ref a0)]) hx hb dX8_writeLen_9 hl (k := 2) rfl (n_inc _ 1 (by decide +kernel)) (by decide) rfl (fun ls hl => ?_)
    refine lv_iconst (v := -1) hx hb dX8_writeLen_12 (by decide +kernel) ?_
    refine n_bast hx hb hK hP hD hS 0 0 rfl rfl (by omega) (by omega) dX8_writeLen_13 (fun H locs hP hD hS => ?_)
    have hP : va_P D cl [(a0, .inl (d0, N, .inl (upd f y (vp_nar .byte ((-1))))))] H := hP
    have hD : va_D A [(a0, .inl (d0, N, .inl (upd f y (vp_nar .byte ((-1))))))] := hD
    refine lv_iincW (v := nI (x - 255)) (lv' := [(0, .int (nI (x - 255))), (2, .int (nI (y + 1))), (1, .ref a0)]) hx hb dX8_writeLen_14 hl (k := 1) rfl (n_dec _ 255 (by decide +kernel) (by omega)) (by decide) rfl (fun ls hl => ?_)
    refine lv_goto (tgt := 0) hx hb dX8_writeLen_20 (by decide) ?_
    refine ih (x - 255) (by omega) _ _ _ _ _ ⟨i + 1, x - 255, y + 1, upd f y (vp_nar .byte (-1)), rfl, by omega, by omega, fun j hj => ?_, fun j hj => ?_, aB_upd hf (bB_nar _), (lv_sub hl [0, 2, 1] rfl), hP, hD, hS, rfl, rfl⟩
    · rw [pk_un (by omega)]; exact hf1 j hj
    · rcases Nat.lt_or_ge j i with h9 | h9
      · rw [pk_un (by omega)]; exact hf2 j h9
      · rw [show q + j = y by omega, pk_us]; exact by8_narm1

set_option maxHeartbeats 4000000 in
set_option maxRecDepth 100000 in
theorem mt_copy8 (l : Launch) (D : va_G) (cl : List vw_C) (b0 : Nat) (d1 : ClassId) (M : Nat) (f : Nat → Int32) (a0 : Nat) (d0 : ClassId) (N : Nat) (g : Nat → Int32) (so q : Nat) (hM : M < 2147483648) (hN : N < 2147483648) (hs : so + 8 ≤ M) (hq : q + 8 ≤ N) (hf : aB f) (hg : aB g) (sz : Nat) : Met l yX8_copy8Bytes (ws_ yX8_copy8Bytes cX8_copy8Bytes 5 (none)) ({ frames := 1, cells := 0, slots := 0, locals := 100 }) (pcW [.ref b0, .int (nI so), .ref a0, .int (nI q)] D cl [(b0, .inl (d1, M, .inl f)), (a0, .inl (d0, N, .inl g))] [(d1, .byte), (d0, .byte)] sz) (va_Qv (fun (u : Nat → Int32) => (∀ j : Nat, j < q → u j = g j) ∧ (∀ i : Nat, i < 8 → u (q + i) = f (so + i)) ∧ aB u) (fun (u : Nat → Int32) t => va_P D cl [(b0, .inl (d1, M, .inl f)), (a0, .inl (d0, N, .inl u))] t.heap) (va_A [(b0, .inl (d1, M, .inl f)), (a0, .inl (d0, N, .inl g))] sz)) 0 0 (va_A [(b0, .inl (d1, M, .inl f)), (a0, .inl (d0, N, .inl g))] sz) := by
  refine n_metW (Qc := fun A => va_Qv (fun (u : Nat → Int32) => (∀ j : Nat, j < q → u j = g j) ∧ (∀ i : Nat, i < 8 → u (q + i) = f (so + i)) ∧ aB u) (fun (u : Nat → Int32) t => va_P D cl [(b0, .inl (d1, M, .inl f)), (a0, .inl (d0, N, .inl u))] t.heap) A) (by decide) (Nat.le_of_ble_eq_true rfl) ?_
  intro p e s m below meth c hx hb hr hlocks hml hown hin hts hP hK A hsz hD hA hS ls hl
  have hown : s.vm.findClass "LZ4SafeUtils" = some m.cls := hown
  have hl : lv_has ls 5 [(0, .ref b0), (1, .int (nI so)), (2, .ref a0), (3, .int (nI q))] := hl
  refine lv_iconst (v := nI 0) hx hb dX8_copy8Bytes_0 (by decide +kernel) ?_
  refine lv_istore (lv' := [(4, .int (nI 0)), (0, .ref b0), (1, .int (nI so)), (2, .ref a0), (3, .int (nI q))]) hx hb dX8_copy8Bytes_1 hl (by decide) rfl (fun ls hl => ?_)
  refine n_loopAt 3 (fun n H locs ls cells slots => ∃ i : Nat, ∃ h : Nat → Int32, (n = 8 - i) ∧ (i ≤ 8) ∧ (∀ j : Nat, j < q → h j = g j) ∧ (∀ j : Nat, j < i → h (q + j) = f (so + j)) ∧ (aB h) ∧ lv_has ls 5 [(0, .ref b0), (1, .int (nI so)), (2, .ref a0), (3, .int (nI q)), (4, .int (nI i))] ∧ va_P D cl [(b0, .inl (d1, M, .inl f)), (a0, .inl (d0, N, .inl h))] H ∧ va_D A [(b0, .inl (d1, M, .inl f)), (a0, .inl (d0, N, .inl h))] ∧ va_S A s.heap H locs ∧ cells = 0 ∧ slots = 0) 8 ⟨0, g, rfl, by omega, fun _ _ => rfl, fun j hj => absurd hj (by omega), hg, (lv_sub hl [1, 2, 3, 4, 0] rfl), hP, hD, hS, rfl, rfl⟩ ?_
  intro n ih H locs ls cells slots hI
  obtain ⟨i, h, hn, hi, hf1, hf2, hh, hl, hP, hD, hS, rfl, rfl⟩ := hI
  refine lv_iload hx hb dX8_copy8Bytes_3 (lv_at hl 4 rfl) ?_
  refine lv_bipush (v := nI 8) hx hb dX8_copy8Bytes_5 (by decide +kernel) ?_
  refine n_icmp_ge (tgt := 28) hx hb dX8_copy8Bytes_7 (by decide) (by omega) (by omega) (fun c__1 => ?_) (fun c__1 => ?_)
  · exact W.vret hx hb hr (fun t ht hW => ⟨⟨h, rfl, ⟨hf1, fun j hj => hf2 j (by omega), hh⟩, n_hP ht hP⟩, hS.F ht⟩) hS.2.2 dX8_copy8Bytes_28
  · refine lv_aload_n hx hb dX8_copy8Bytes_10 rfl (lv_at hl 2 rfl) ?_
    refine lv_iload_n hx hb dX8_copy8Bytes_11 rfl (lv_at hl 3 rfl) ?_
    refine lv_iload hx hb dX8_copy8Bytes_12 (lv_at hl 4 rfl) ?_
    refine n_iadd hx hb dX8_copy8Bytes_14 ?_
    refine lv_aload_n hx hb dX8_copy8Bytes_15 rfl (lv_at hl 0 rfl) ?_
    refine lv_iload_n hx hb dX8_copy8Bytes_16 rfl (lv_at hl 1 rfl) ?_
    refine lv_iload hx hb dX8_copy8Bytes_17 (lv_at hl 4 rfl) ?_
    refine n_iadd hx hb dX8_copy8Bytes_19 ?_
    refine n_bald hx hb hK hP 0 0 rfl rfl (by omega) (by omega) dX8_copy8Bytes_20 ?_
    refine n_bast hx hb hK hP hD hS 1 1 rfl rfl (by omega) (by omega) dX8_copy8Bytes_21 (fun H locs hP hD hS => ?_)
    have hP : va_P D cl [(b0, .inl (d1, M, .inl f)), (a0, .inl (d0, N, .inl (upd h (q + i) (vp_nar .byte (f (so + i))))))] H := hP
    have hD : va_D A [(b0, .inl (d1, M, .inl f)), (a0, .inl (d0, N, .inl (upd h (q + i) (vp_nar .byte (f (so + i))))))] := hD
    refine lv_iinc (v := nI (i + 1)) (lv' := [(4, .int (nI (i + 1))), (0, .ref b0), (1, .int (nI so)), (2, .ref a0), (3, .int (nI q))]) hx hb dX8_copy8Bytes_22 hl (k := 4) rfl (n_inc _ 1 (by decide +kernel)) (by decide) rfl (fun ls hl => ?_)
    refine lv_goto (tgt := 3) hx hb dX8_copy8Bytes_25 (by decide) ?_
    refine ih (8 - (i + 1)) (by omega) _ _ _ _ _ ⟨i + 1, upd h (q + i) (vp_nar .byte (f (so + i))), rfl, by omega, fun j hj => ?_, fun j hj => ?_, aB_upd hh (bB_nar _), (lv_sub hl [1, 2, 3, 4, 0] rfl), hP, hD, hS, rfl, rfl⟩
    · rw [pk_un (by omega)]; exact hf1 j hj
    · rcases Nat.lt_or_ge j i with h9 | h9
      · rw [pk_un (by omega)]; exact hf2 j h9
      · rw [show j = i by omega, pk_us]; exact bB_id (hf _)

set_option maxHeartbeats 4000000 in
set_option maxRecDepth 100000 in
theorem mt_copy8s (l : Launch) (D : va_G) (cl : List vw_C) (a0 : Nat) (d0 : ClassId) (N : Nat) (g : Nat → Int32) (so q : Nat) (hN : N < 2147483648) (hs : so < q) (hq : q + 8 ≤ N) (hg : aB g) (sz : Nat) : Met l yX8_copy8Bytes (ws_ yX8_copy8Bytes cX8_copy8Bytes 5 (none)) ({ frames := 1, cells := 0, slots := 0, locals := 100 }) (pcW [.ref a0, .int (nI so), .ref a0, .int (nI q)] D cl [(a0, .inl (d0, N, .inl g))] [(d0, .byte)] sz) (va_Qv (fun (u : Nat → Int32) => (∀ j : Nat, j < q → u j = g j) ∧ (∀ i : Nat, i < 8 → u (q + i) = u (so + i)) ∧ aB u) (fun (u : Nat → Int32) t => va_P D cl [(a0, .inl (d0, N, .inl u))] t.heap) (va_A [(a0, .inl (d0, N, .inl g))] sz)) 0 0 (va_A [(a0, .inl (d0, N, .inl g))] sz) := by
  refine n_metW (Qc := fun A => va_Qv (fun (u : Nat → Int32) => (∀ j : Nat, j < q → u j = g j) ∧ (∀ i : Nat, i < 8 → u (q + i) = u (so + i)) ∧ aB u) (fun (u : Nat → Int32) t => va_P D cl [(a0, .inl (d0, N, .inl u))] t.heap) A) (by decide) (Nat.le_of_ble_eq_true rfl) ?_
  intro p e s m below meth c hx hb hr hlocks hml hown hin hts hP hK A hsz hD hA hS ls hl
  have hown : s.vm.findClass "LZ4SafeUtils" = some m.cls := hown
  have hl : lv_has ls 5 [(0, .ref a0), (1, .int (nI so)), (2, .ref a0), (3, .int (nI q))] := hl
  refine lv_iconst (v := nI 0) hx hb dX8_copy8Bytes_0 (by decide +kernel) ?_
  refine lv_istore (lv' := [(4, .int (nI 0)), (0, .ref a0), (1, .int (nI so)), (2, .ref a0), (3, .int (nI q))]) hx hb dX8_copy8Bytes_1 hl (by decide) rfl (fun ls hl => ?_)
  refine n_loopAt 3 (fun n H locs ls cells slots => ∃ i : Nat, ∃ h : Nat → Int32, (n = 8 - i) ∧ (i ≤ 8) ∧ (∀ j : Nat, j < q → h j = g j) ∧ (∀ j : Nat, j < i → h (q + j) = h (so + j)) ∧ (aB h) ∧ lv_has ls 5 [(0, .ref a0), (1, .int (nI so)), (2, .ref a0), (3, .int (nI q)), (4, .int (nI i))] ∧ va_P D cl [(a0, .inl (d0, N, .inl h))] H ∧ va_D A [(a0, .inl (d0, N, .inl h))] ∧ va_S A s.heap H locs ∧ cells = 0 ∧ slots = 0) 8 ⟨0, g, rfl, by omega, fun _ _ => rfl, fun j hj => absurd hj (by omega), hg, (lv_sub hl [1, 2, 3, 4, 0] rfl), hP, hD, hS, rfl, rfl⟩ ?_
  intro n ih H locs ls cells slots hI
  obtain ⟨i, h, hn, hi, hf1, hf2, hh, hl, hP, hD, hS, rfl, rfl⟩ := hI
  refine lv_iload hx hb dX8_copy8Bytes_3 (lv_at hl 4 rfl) ?_
  refine lv_bipush (v := nI 8) hx hb dX8_copy8Bytes_5 (by decide +kernel) ?_
  refine n_icmp_ge (tgt := 28) hx hb dX8_copy8Bytes_7 (by decide) (by omega) (by omega) (fun c__1 => ?_) (fun c__1 => ?_)
  · exact W.vret hx hb hr (fun t ht hW => ⟨⟨h, rfl, ⟨hf1, fun j hj => hf2 j (by omega), hh⟩, n_hP ht hP⟩, hS.F ht⟩) hS.2.2 dX8_copy8Bytes_28
  · refine lv_aload_n hx hb dX8_copy8Bytes_10 rfl (lv_at hl 2 rfl) ?_
    refine lv_iload_n hx hb dX8_copy8Bytes_11 rfl (lv_at hl 3 rfl) ?_
    refine lv_iload hx hb dX8_copy8Bytes_12 (lv_at hl 4 rfl) ?_
    refine n_iadd hx hb dX8_copy8Bytes_14 ?_
    refine lv_aload_n hx hb dX8_copy8Bytes_15 rfl (lv_at hl 0 rfl) ?_
    refine lv_iload_n hx hb dX8_copy8Bytes_16 rfl (lv_at hl 1 rfl) ?_
    refine lv_iload hx hb dX8_copy8Bytes_17 (lv_at hl 4 rfl) ?_
    refine n_iadd hx hb dX8_copy8Bytes_19 ?_
    refine n_bald hx hb hK hP 0 0 rfl rfl (by omega) (by omega) dX8_copy8Bytes_20 ?_
    refine n_bast hx hb hK hP hD hS 0 0 rfl rfl (by omega) (by omega) dX8_copy8Bytes_21 (fun H locs hP hD hS => ?_)
    have hP : va_P D cl [(a0, .inl (d0, N, .inl (upd h (q + i) (vp_nar .byte (h (so + i))))))] H := hP
    have hD : va_D A [(a0, .inl (d0, N, .inl (upd h (q + i) (vp_nar .byte (h (so + i))))))] := hD
    refine lv_iinc (v := nI (i + 1)) (lv' := [(4, .int (nI (i + 1))), (0, .ref a0), (1, .int (nI so)), (2, .ref a0), (3, .int (nI q))]) hx hb dX8_copy8Bytes_22 hl (k := 4) rfl (n_inc _ 1 (by decide +kernel)) (by decide) rfl (fun ls hl => ?_)
    refine lv_goto (tgt := 3) hx hb dX8_copy8Bytes_25 (by decide) ?_
    refine ih (8 - (i + 1)) (by omega) _ _ _ _ _ ⟨i + 1, upd h (q + i) (vp_nar .byte (h (so + i))), rfl, by omega, fun j hj => ?_, inc_step hs hf2 hh, aB_upd hh (bB_nar _), (lv_sub hl [1, 2, 3, 4, 0] rfl), hP, hD, hS, rfl, rfl⟩
    rw [pk_un (by omega)]; exact hf1 j hj

set_option maxHeartbeats 4000000 in
set_option maxRecDepth 100000 in
theorem mt_safeInc (l : Launch) (D : va_G) (cl : List vw_C) (a0 : Nat) (d0 : ClassId) (N : Nat) (g : Nat → Int32) (so q w : Nat) (hN : N < 2147483648) (hs : so < q) (hq : q + w ≤ N) (hg : aB g) (sz : Nat) : Met l yX8_safeIncrementalCopy (ws_ yX8_safeIncrementalCopy cX8_safeIncrementalCopy 5 (none)) ({ frames := 1, cells := 0, slots := 0, locals := 100 }) (pcW [.ref a0, .int (nI so), .int (nI q), .int (nI w)] D cl [(a0, .inl (d0, N, .inl g))] [(d0, .byte)] sz) (va_Qv (fun (u : Nat → Int32) => (∀ j : Nat, j < q → u j = g j) ∧ (∀ i : Nat, i < w → u (q + i) = u (so + i)) ∧ aB u) (fun (u : Nat → Int32) t => va_P D cl [(a0, .inl (d0, N, .inl u))] t.heap) (va_A [(a0, .inl (d0, N, .inl g))] sz)) 0 0 (va_A [(a0, .inl (d0, N, .inl g))] sz) := by
  refine n_metW (Qc := fun A => va_Qv (fun (u : Nat → Int32) => (∀ j : Nat, j < q → u j = g j) ∧ (∀ i : Nat, i < w → u (q + i) = u (so + i)) ∧ aB u) (fun (u : Nat → Int32) t => va_P D cl [(a0, .inl (d0, N, .inl u))] t.heap) A) (by decide) (Nat.le_of_ble_eq_true rfl) ?_
  intro p e s m below meth c hx hb hr hlocks hml hown hin hts hP hK A hsz hD hA hS ls hl
  have hown : s.vm.findClass "LZ4SafeUtils" = some m.cls := hown
  have hl : lv_has ls 5 [(0, .ref a0), (1, .int (nI so)), (2, .int (nI q)), (3, .int (nI w))] := hl
  refine lv_iconst (v := nI 0) hx hb dX8_safeIncrementalCopy_0 (by decide +kernel) ?_
  refine lv_istore (lv' := [(4, .int (nI 0)), (0, .ref a0), (1, .int (nI so)), (2, .int (nI q)), (3, .int (nI w))]) hx hb dX8_safeIncrementalCopy_1 hl (by decide) rfl (fun ls hl => ?_)
  refine n_loopAt 3 (fun n H locs ls cells slots => ∃ i : Nat, ∃ h : Nat → Int32, (n = w - i) ∧ (i ≤ w) ∧ (∀ j : Nat, j < q → h j = g j) ∧ (∀ j : Nat, j < i → h (q + j) = h (so + j)) ∧ (aB h) ∧ lv_has ls 5 [(0, .ref a0), (1, .int (nI so)), (2, .int (nI q)), (3, .int (nI w)), (4, .int (nI i))] ∧ va_P D cl [(a0, .inl (d0, N, .inl h))] H ∧ va_D A [(a0, .inl (d0, N, .inl h))] ∧ va_S A s.heap H locs ∧ cells = 0 ∧ slots = 0) w ⟨0, g, rfl, by omega, fun _ _ => rfl, fun j hj => absurd hj (by omega), hg, (lv_sub hl [1, 2, 3, 4, 0] rfl), hP, hD, hS, rfl, rfl⟩ ?_
  intro n ih H locs ls cells slots hI
  obtain ⟨i, h, hn, hi, hf1, hf2, hh, hl, hP, hD, hS, rfl, rfl⟩ := hI
  refine lv_iload hx hb dX8_safeIncrementalCopy_3 (lv_at hl 4 rfl) ?_
  refine lv_iload_n hx hb dX8_safeIncrementalCopy_5 rfl (lv_at hl 3 rfl) ?_
  refine n_icmp_ge (tgt := 27) hx hb dX8_safeIncrementalCopy_6 (by decide) (by omega) (by omega) (fun c__1 => ?_) (fun c__1 => ?_)
  · exact W.vret hx hb hr (fun t ht hW => ⟨⟨h, rfl, ⟨hf1, fun j hj => hf2 j (by omega), hh⟩, n_hP ht hP⟩, hS.F ht⟩) hS.2.2 dX8_safeIncrementalCopy_27
  · refine lv_aload_n hx hb dX8_safeIncrementalCopy_9 rfl (lv_at hl 0 rfl) ?_
    refine lv_iload_n hx hb dX8_safeIncrementalCopy_10 rfl (lv_at hl 2 rfl) ?_
    refine lv_iload hx hb dX8_safeIncrementalCopy_11 (lv_at hl 4 rfl) ?_
    refine n_iadd hx hb dX8_safeIncrementalCopy_13 ?_
    refine lv_aload_n hx hb dX8_safeIncrementalCopy_14 rfl (lv_at hl 0 rfl) ?_
    refine lv_iload_n hx hb dX8_safeIncrementalCopy_15 rfl (lv_at hl 1 rfl) ?_
    refine lv_iload hx hb dX8_safeIncrementalCopy_16 (lv_at hl 4 rfl) ?_
    refine n_iadd hx hb dX8_safeIncrementalCopy_18 ?_
    refine n_bald hx hb hK hP 0 0 rfl rfl (by omega) (by omega) dX8_safeIncrementalCopy_19 ?_
    refine n_bast hx hb hK hP hD hS 0 0 rfl rfl (by omega) (by omega) dX8_safeIncrementalCopy_20 (fun H locs hP hD hS => ?_)
    have hP : va_P D cl [(a0, .inl (d0, N, .inl (upd h (q + i) (vp_nar .byte (h (so + i))))))] H := hP
    have hD : va_D A [(a0, .inl (d0, N, .inl (upd h (q + i) (vp_nar .byte (h (so + i))))))] := hD
    refine lv_iinc (v := nI (i + 1)) (lv' := [(4, .int (nI (i + 1))), (0, .ref a0), (1, .int (nI so)), (2, .int (nI q)), (3, .int (nI w))]) hx hb dX8_safeIncrementalCopy_21 hl (k := 4) rfl (n_inc _ 1 (by decide +kernel)) (by decide) rfl (fun ls hl => ?_)
    refine lv_goto (tgt := 3) hx hb dX8_safeIncrementalCopy_24 (by decide) ?_
    refine ih (w - (i + 1)) (by omega) _ _ _ _ _ ⟨i + 1, upd h (q + i) (vp_nar .byte (h (so + i))), rfl, by omega, fun j hj => ?_, inc_step hs hf2 hh, aB_upd hh (bB_nar _), (lv_sub hl [1, 2, 3, 4, 0] rfl), hP, hD, hS, rfl, rfl⟩
    rw [pk_un (by omega)]; exact hf1 j hj

set_option maxHeartbeats 4000000 in
set_option maxRecDepth 100000 in
theorem mt_wildInc (l : Launch) (D : va_G) (cl : List vw_C) (a0 : Nat) (d0 : ClassId) (N : Nat) (g : Nat → Int32) (so q z : Nat) (hN : N < 2147483648) (hs : so < q) (hz : q < z) (hq : z + 7 ≤ N) (hg : aB g) (sz : Nat) : Met l yX8_wildIncrementalCopy (ws_ yX8_wildIncrementalCopy cX8_wildIncrementalCopy 4 (none)) ({ frames := 2, cells := 0, slots := 0, locals := 200 }) (pcW [.ref a0, .int (nI so), .int (nI q), .int (nI z)] D cl [(a0, .inl (d0, N, .inl g))] [(d0, .byte)] sz) (va_Qv (fun (u : Nat → Int32) => (∀ j : Nat, j < q → u j = g j) ∧ (∀ i : Nat, q + i < z → u (q + i) = u (so + i)) ∧ aB u) (fun (u : Nat → Int32) t => va_P D cl [(a0, .inl (d0, N, .inl u))] t.heap) (va_A [(a0, .inl (d0, N, .inl g))] sz)) 0 0 (va_A [(a0, .inl (d0, N, .inl g))] sz) := by
  refine n_metW (Qc := fun A => va_Qv (fun (u : Nat → Int32) => (∀ j : Nat, j < q → u j = g j) ∧ (∀ i : Nat, q + i < z → u (q + i) = u (so + i)) ∧ aB u) (fun (u : Nat → Int32) t => va_P D cl [(a0, .inl (d0, N, .inl u))] t.heap) A) (by decide) (Nat.le_of_ble_eq_true rfl) ?_
  intro p e s m below meth c hx hb hr hlocks hml hown hin hts hP hK A hsz hD hA hS ls hl
  have hown : s.vm.findClass "LZ4SafeUtils" = some m.cls := hown
  have hl : lv_has ls 4 [(0, .ref a0), (1, .int (nI so)), (2, .int (nI q)), (3, .int (nI z))] := hl
  refine n_loopAt 0 (fun n H locs ls cells slots => ∃ i : Nat, ∃ x : Nat, ∃ y : Nat, ∃ h : Nat → Int32, (n = z - y) ∧ (x = so + i) ∧ (y = q + i) ∧ (y < z) ∧ (∀ j : Nat, j < q → h j = g j) ∧ (∀ j : Nat, j < i → h (q + j) = h (so + j)) ∧ (aB h) ∧ lv_has ls 4 [(0, .ref a0), (1, .int (nI x)), (2, .int (nI y)), (3, .int (nI z))] ∧ va_P D cl [(a0, .inl (d0, N, .inl h))] H ∧ va_D A [(a0, .inl (d0, N, .inl h))] ∧ va_S A s.heap H locs ∧ cells = 0 ∧ slots = 0) (z - q) ⟨0, so, q, g, rfl, rfl, rfl, hz, fun _ _ => rfl, fun j hj => absurd hj (by omega), hg, (lv_sub hl [0, 1, 2, 3] rfl), hP, hD, hS, rfl, rfl⟩ ?_
  intro n ih H locs ls cells slots hI
  obtain ⟨i, x, y, h, hn, hx1, hy, hyz, hf1, hf2, hh, hl, hP, hD, hS, rfl, rfl⟩ := hI
  refine lv_aload_n hx hb dX8_wildIncrementalCopy_0 rfl (lv_at hl 0 rfl) ?_
  refine lv_iload_n hx hb dX8_wildIncrementalCopy_1 rfl (lv_at hl 1 rfl) ?_
  refine lv_aload_n hx hb dX8_wildIncrementalCopy_2 rfl (lv_at hl 0 rfl) ?_
  refine lv_iload_n hx hb dX8_wildIncrementalCopy_3 rfl (lv_at hl 2 rfl) ?_
  refine n_callv (va_runS (As := [.ref a0, .int (nI x), .ref a0, .int (nI y)]) (rest := []) ⟨hx, hb, hml, hown, hts⟩ (mt_copy8s l D cl a0 d0 N h x y hN (by omega) (by omega) hh H.size) (va_cwS 4 hts (lw_S q287 q288 q19 q289) rfl rfl rfl (by decide +kernel) ⟨Nat.le_of_ble_eq_true rfl, Nat.le_of_ble_eq_true rfl⟩) (pcW_pre (hP.sub [0] rfl) (hK.sub [0] rfl) (hD.sub [0] (by decide) rfl)) rfl rfl hl.1 rfl (lv_room (Nat.le_of_ble_eq_true rfl)) dX8_wildIncrementalCopy_4 ⟨Nat.le_of_ble_eq_true rfl, Nat.le_of_ble_eq_true rfl⟩) hP hD hS hA [0] rfl (fun _ => rfl) (fun h2 H locs hw hP hD hS => ?_)
  have hP : va_P D cl [(a0, .inl (d0, N, .inl h2))] H := hP
  have hD : va_D A [(a0, .inl (d0, N, .inl h2))] := hD
  obtain ⟨hw1, hw2, hw3⟩ := hw
  have hk1 : ∀ j : Nat, j < q → h2 j = g j := fun j hj => by rw [hw1 j (by omega)]; exact hf1 j hj
  have hk2 : ∀ j : Nat, j < i + 8 → h2 (q + j) = h2 (so + j) := by
    intro j hj
    rcases Nat.lt_or_ge j i with h9 | h9
    · rw [hw1 _ (by omega), hw1 _ (by omega)]; exact hf2 j h9
    · have h8 := hw2 (j - i) (by omega)
      rw [show y + (j - i) = q + j by omega, show x + (j - i) = so + j by omega] at h8; exact h8
  refine lv_iinc (v := nI (x + 8)) (lv' := [(1, .int (nI (x + 8))), (0, .ref a0), (2, .int (nI y)), (3, .int (nI z))]) hx hb dX8_wildIncrementalCopy_7 hl (k := 1) rfl (n_inc _ 8 (by decide +kernel)) (by decide) rfl (fun ls hl => ?_)
  refine lv_iinc (v := nI (y + 8)) (lv' := [(2, .int (nI (y + 8))), (1, .int (nI (x + 8))), (0, .ref a0), (3, .int (nI z))]) hx hb dX8_wildIncrementalCopy_10 hl (k := 2) rfl (n_inc _ 8 (by decide +kernel)) (by decide) rfl (fun ls hl => ?_)
  refine lv_iload_n hx hb dX8_wildIncrementalCopy_13 rfl (lv_at hl 0 rfl) ?_
  refine lv_iload_n hx hb dX8_wildIncrementalCopy_14 rfl (lv_at hl 3 rfl) ?_
  refine n_icmp_lt (tgt := 0) hx hb dX8_wildIncrementalCopy_15 (by decide) (by omega) (by omega) (fun c__1 => ?_) (fun c__1 => ?_)
  · exact ih (z - (y + 8)) (by omega) _ _ _ _ _ ⟨i + 8, x + 8, y + 8, h2, rfl, by omega, by omega, by omega, hk1, hk2, hw3, (lv_sub hl [2, 1, 0, 3] rfl), hP, hD, hS, rfl, rfl⟩
  · exact W.vret hx hb hr (fun t ht hW => ⟨⟨h2, rfl, ⟨hk1, fun j hj => hk2 j (by omega), hw3⟩, n_hP ht hP⟩, hS.F ht⟩) hS.2.2 dX8_wildIncrementalCopy_18

set_option maxHeartbeats 4000000 in
set_option maxRecDepth 100000 in
theorem mt_wildCopy (l : Launch) (D : va_G) (cl : List vw_C) (b0 : Nat) (d1 : ClassId) (M : Nat) (f : Nat → Int32) (a0 : Nat) (d0 : ClassId) (N : Nat) (g : Nat → Int32) (so q w : Nat) (hM : M < 2147483648) (hN : N < 2147483648) (hs : so + w + 7 ≤ M) (hq : q + w + 7 ≤ N) (hf : aB f) (hg : aB g) (sz : Nat) : Met l yX8_wildArraycopy (wsW_ yX8_wildArraycopy cX8_wildArraycopy 6 (none) [((0 : Nat), (29 : Nat), (32 : Nat), (32 : Nat))]) ({ frames := 2, cells := 0, slots := 0, locals := 200 }) (pcW [.ref b0, .int (nI so), .ref a0, .int (nI q), .int (nI w)] D cl [(b0, .inl (d1, M, .inl f)), (a0, .inl (d0, N, .inl g))] [(d1, .byte), (d0, .byte)] sz) (va_Qv (fun (u : Nat → Int32) => (∀ j : Nat, j < q → u j = g j) ∧ (∀ i : Nat, i < w → u (q + i) = f (so + i)) ∧ aB u) (fun (u : Nat → Int32) t => va_P D cl [(b0, .inl (d1, M, .inl f)), (a0, .inl (d0, N, .inl u))] t.heap) (va_A [(b0, .inl (d1, M, .inl f)), (a0, .inl (d0, N, .inl g))] sz)) 0 0 (va_A [(b0, .inl (d1, M, .inl f)), (a0, .inl (d0, N, .inl g))] sz) := by
  refine n_metWH (Qc := fun A => va_Qv (fun (u : Nat → Int32) => (∀ j : Nat, j < q → u j = g j) ∧ (∀ i : Nat, i < w → u (q + i) = f (so + i)) ∧ aB u) (fun (u : Nat → Int32) t => va_P D cl [(b0, .inl (d1, M, .inl f)), (a0, .inl (d0, N, .inl u))] t.heap) A) (by decide) (Nat.le_of_ble_eq_true rfl) ?_
  intro p e s m below meth c hx hb hr hlocks hml hown hin hts hP hK A hsz hD hA hS ls hl
  have hown : s.vm.findClass "LZ4SafeUtils" = some m.cls := hown
  have hl : lv_has ls 6 [(0, .ref b0), (1, .int (nI so)), (2, .ref a0), (3, .int (nI q)), (4, .int (nI w))] := hl
  refine lv_iconst (v := nI 0) hx hb dX8_wildArraycopy_0 (by decide +kernel) ?_
  refine lv_istore (lv' := [(5, .int (nI 0)), (0, .ref b0), (1, .int (nI so)), (2, .ref a0), (3, .int (nI q)), (4, .int (nI w))]) hx hb dX8_wildArraycopy_1 hl (by decide) rfl (fun ls hl => ?_)
  refine n_loopAt 3 (fun n H locs ls cells slots => ∃ i : Nat, ∃ h : Nat → Int32, (n = w + 7 - i) ∧ (i ≤ w + 7) ∧ (∀ j : Nat, j < q → h j = g j) ∧ (∀ j : Nat, j < i → h (q + j) = f (so + j)) ∧ (aB h) ∧ lv_has ls 6 [(0, .ref b0), (1, .int (nI so)), (2, .ref a0), (3, .int (nI q)), (4, .int (nI w)), (5, .int (nI i))] ∧ va_P D cl [(b0, .inl (d1, M, .inl f)), (a0, .inl (d0, N, .inl h))] H ∧ va_D A [(b0, .inl (d1, M, .inl f)), (a0, .inl (d0, N, .inl h))] ∧ va_S A s.heap H locs ∧ cells = 0 ∧ slots = 0) (w + 7) ⟨0, g, rfl, by omega, fun _ _ => rfl, fun j hj => absurd hj (by omega), hg, (lv_sub hl [1, 2, 3, 4, 5, 0] rfl), hP, hD, hS, rfl, rfl⟩ ?_
  intro n ih H locs ls cells slots hI
  obtain ⟨i, h, hn, hi, hf1, hf2, hh, hl, hP, hD, hS, rfl, rfl⟩ := hI
  refine lv_iload hx hb dX8_wildArraycopy_3 (lv_at hl 5 rfl) ?_
  refine lv_iload hx hb dX8_wildArraycopy_5 (lv_at hl 4 rfl) ?_
  refine n_icmp_ge (tgt := 29) hx hb dX8_wildArraycopy_7 (by decide) (by omega) (by omega) (fun c__1 => ?_) (fun c__1 => ?_)
  · refine lv_goto (tgt := 44) hx hb dX8_wildArraycopy_29 (by decide) ?_
    exact W.vret hx hb hr (fun t ht hW => ⟨⟨h, rfl, ⟨hf1, fun j hj => hf2 j (by omega), hh⟩, n_hP ht hP⟩, hS.F ht⟩) hS.2.2 dX8_wildArraycopy_44
  · refine lv_aload_n hx hb dX8_wildArraycopy_10 rfl (lv_at hl 0 rfl) ?_
    refine lv_iload_n hx hb dX8_wildArraycopy_11 rfl (lv_at hl 1 rfl) ?_
    refine lv_iload hx hb dX8_wildArraycopy_12 (lv_at hl 5 rfl) ?_
    refine n_iadd hx hb dX8_wildArraycopy_14 ?_
    refine lv_aload_n hx hb dX8_wildArraycopy_15 rfl (lv_at hl 2 rfl) ?_
    refine lv_iload_n hx hb dX8_wildArraycopy_16 rfl (lv_at hl 3 rfl) ?_
    refine lv_iload hx hb dX8_wildArraycopy_17 (lv_at hl 5 rfl) ?_
    refine n_iadd hx hb dX8_wildArraycopy_19 ?_
    refine n_callv (va_runS (As := [.ref b0, .int (nI (so + i)), .ref a0, .int (nI (q + i))]) (rest := []) ⟨hx, hb, hml, hown, hts⟩ (mt_copy8 l D cl b0 d1 M f a0 d0 N h (so + i) (q + i) hM hN (by omega) (by omega) hf hh H.size) (va_cwS 4 hts (lw_S q287 q288 q19 q289) rfl rfl rfl (by decide +kernel) ⟨Nat.le_of_ble_eq_true rfl, Nat.le_of_ble_eq_true rfl⟩) (pcW_pre (hP.sub [0, 1] rfl) (hK.sub [0, 1] rfl) (hD.sub [0, 1] (by decide) rfl)) rfl rfl hl.1 rfl (lv_room (Nat.le_of_ble_eq_true rfl)) dX8_wildArraycopy_20 ⟨Nat.le_of_ble_eq_true rfl, Nat.le_of_ble_eq_true rfl⟩) hP hD hS hA [0, 1] rfl (fun _ => rfl) (fun h2 H locs hw hP hD hS => ?_)
    have hP : va_P D cl [(b0, .inl (d1, M, .inl f)), (a0, .inl (d0, N, .inl h2))] H := hP
    have hD : va_D A [(b0, .inl (d1, M, .inl f)), (a0, .inl (d0, N, .inl h2))] := hD
    obtain ⟨hw1, hw2, hw3⟩ := hw
    refine lv_iinc (v := nI (i + 8)) (lv' := [(5, .int (nI (i + 8))), (0, .ref b0), (1, .int (nI so)), (2, .ref a0), (3, .int (nI q)), (4, .int (nI w))]) hx hb dX8_wildArraycopy_23 hl (k := 5) rfl (n_inc _ 8 (by decide +kernel)) (by decide) rfl (fun ls hl => ?_)
    refine lv_goto (tgt := 3) hx hb dX8_wildArraycopy_26 (by decide) ?_
    refine ih (w + 7 - (i + 8)) (by omega) _ _ _ _ _ ⟨i + 8, h2, rfl, by omega, fun j hj => ?_, fun j hj => ?_, hw3, (lv_sub hl [1, 2, 3, 4, 5, 0] rfl), hP, hD, hS, rfl, rfl⟩
    · rw [hw1 j (by omega)]; exact hf1 j hj
    · rcases Nat.lt_or_ge j i with h9 | h9
      · rw [hw1 _ (by omega)]; exact hf2 j h9
      · have h8 := hw2 (j - i) (by omega)
        rw [show q + i + (j - i) = q + j by omega, show so + i + (j - i) = so + j by omega] at h8; exact h8

set_option maxHeartbeats 4000000 in
set_option maxRecDepth 100000 in
theorem mt_safeCopy (l : Launch) (D : va_G) (cl : List vw_C) (b0 : Nat) (d1 : ClassId) (M : Nat) (f : Nat → Int32) (a0 : Nat) (d0 : ClassId) (N : Nat) (g : Nat → Int32) (so q w : Nat) (hM : M < 2147483648) (hN : N < 2147483648) (hs : so + w ≤ M) (hq : q + w ≤ N) (hf : aB f) (hg : aB g) (sz : Nat) : Met l yX8_safeArraycopy (ws_ yX8_safeArraycopy cX8_safeArraycopy 5 (none)) ({ frames := 2, cells := 0, slots := 0, locals := 300 }) (pcW [.ref b0, .int (nI so), .ref a0, .int (nI q), .int (nI w)] D cl [(b0, .inl (d1, M, .inl f)), (a0, .inl (d0, N, .inl g))] [(d1, .byte), (d0, .byte)] sz) (va_Qv (fun (u : Nat → Int32) => (∀ j : Nat, j < q → u j = g j) ∧ (∀ i : Nat, i < w → u (q + i) = f (so + i)) ∧ aB u) (fun (u : Nat → Int32) t => va_P D cl [(b0, .inl (d1, M, .inl f)), (a0, .inl (d0, N, .inl u))] t.heap) (va_A [(b0, .inl (d1, M, .inl f)), (a0, .inl (d0, N, .inl g))] sz)) 0 0 (va_A [(b0, .inl (d1, M, .inl f)), (a0, .inl (d0, N, .inl g))] sz) := by
  refine n_metW (Qc := fun A => va_Qv (fun (u : Nat → Int32) => (∀ j : Nat, j < q → u j = g j) ∧ (∀ i : Nat, i < w → u (q + i) = f (so + i)) ∧ aB u) (fun (u : Nat → Int32) t => va_P D cl [(b0, .inl (d1, M, .inl f)), (a0, .inl (d0, N, .inl u))] t.heap) A) (by decide) (Nat.le_of_ble_eq_true rfl) ?_
  intro p e s m below meth c hx hb hr hlocks hml hown hin hts hP hK A hsz hD hA hS ls hl
  have hown : s.vm.findClass "LZ4SafeUtils" = some m.cls := hown
  have hl : lv_has ls 5 [(0, .ref b0), (1, .int (nI so)), (2, .ref a0), (3, .int (nI q)), (4, .int (nI w))] := hl
  refine lv_aload_n hx hb dX8_safeArraycopy_0 rfl (lv_at hl 0 rfl) ?_
  refine lv_iload_n hx hb dX8_safeArraycopy_1 rfl (lv_at hl 1 rfl) ?_
  refine lv_aload_n hx hb dX8_safeArraycopy_2 rfl (lv_at hl 2 rfl) ?_
  refine lv_iload_n hx hb dX8_safeArraycopy_3 rfl (lv_at hl 3 rfl) ?_
  refine lv_iload hx hb dX8_safeArraycopy_4 (lv_at hl 4 rfl) ?_
  refine n_copy hx hb (by rw [hml]; exact hl.1.symm) hown (hts _ q319) (hts _ q321) (hts _ q320) (hts _ q22) hK hP hD hS 0 1 0 1 rfl rfl rfl rfl (by omega) (by omega) (by omega) (by omega) (fun i _ => bB_fits (hf _)) (Nat.le_of_ble_eq_true rfl) (by decide +kernel) dX8_safeArraycopy_6 (fun H locs hP hD hS => ?_)
  have hP : va_P D cl [(b0, .inl (d1, M, .inl f)), (a0, .inl (d0, N, .inl (va_cpy f g so q w)))] H := hP
  have hD : va_D A [(b0, .inl (d1, M, .inl f)), (a0, .inl (d0, N, .inl (va_cpy f g so q w)))] := hD
  exact W.vret hx hb hr (fun t ht hW => ⟨⟨_, rfl, ⟨fun j hj => pk_cpy_out (by omega), fun i hi => cpy_in9 hi, aB_cpy hf hg⟩, n_hP ht hP⟩, hS.F ht⟩) hS.2.2 dX8_safeArraycopy_9

set_option maxHeartbeats 4000000 in
set_option maxRecDepth 100000 in
theorem mt_last (l : Launch) (D : va_G) (cl : List vw_C) (b0 : Nat) (d1 : ClassId) (M : Nat) (f : Nat → Int32) (a0 : Nat) (d0 : ClassId) (N : Nat) (g : Nat → Int32) (so w q z : Nat) (hM : M < 2147483648) (hN : N < 2147483648) (hs : so + w ≤ M) (hq : q + 1 + enc w + w ≤ z) (hz : z ≤ N) (hf : aB f) (hg : aB g) (sz : Nat) : Met l yX8_lastLiterals (ws_ yX8_lastLiterals cX8_lastLiterals 7 (some .int)) ({ frames := 2, cells := 0, slots := 0, locals := 300 }) (pcW [.ref b0, .int (nI so), .int (nI w), .ref a0, .int (nI q), .int (nI z)] D cl [(b0, .inl (d1, M, .inl f)), (a0, .inl (d0, N, .inl g))] [(d1, .byte), (d0, .byte)] sz) (va_Qi (fun (r : Int32) (u : Nat → Int32) => r = nI (q + 1 + enc w + w) ∧ (∀ j : Nat, j < q → u j = g j) ∧ zHalf f u so q w ∧ aB u) (fun (u : Nat → Int32) t => va_P D cl [(b0, .inl (d1, M, .inl f)), (a0, .inl (d0, N, .inl u))] t.heap) (va_A [(b0, .inl (d1, M, .inl f)), (a0, .inl (d0, N, .inl g))] sz)) 0 0 (va_A [(b0, .inl (d1, M, .inl f)), (a0, .inl (d0, N, .inl g))] sz) := by
  refine n_metW (Qc := fun A => va_Qi (fun (r : Int32) (u : Nat → Int32) => r = nI (q + 1 + enc w + w) ∧ (∀ j : Nat, j < q → u j = g j) ∧ zHalf f u so q w ∧ aB u) (fun (u : Nat → Int32) t => va_P D cl [(b0, .inl (d1, M, .inl f)), (a0, .inl (d0, N, .inl u))] t.heap) A) (by decide) (Nat.le_of_ble_eq_true rfl) ?_
  intro p e s m below meth c hx hb hr hlocks hml hown hin hts hP hK A hsz hD hA hS ls hl
  have hown : s.vm.findClass "LZ4SafeUtils" = some m.cls := hown
  have hl : lv_has ls 7 [(0, .ref b0), (1, .int (nI so)), (2, .int (nI w)), (3, .ref a0), (4, .int (nI q)), (5, .int (nI z))] := hl
  have hq2 : q < 2147483648 := by omega
  have hw2 : w < 2147483648 := by omega
  refine lv_iload_n hx hb dX8_lastLiterals_0 rfl (lv_at hl 2 rfl) ?_
  refine lv_istore (lv' := [(6, .int (nI w)), (0, .ref b0), (1, .int (nI so)), (2, .int (nI w)), (3, .ref a0), (4, .int (nI q)), (5, .int (nI z))]) hx hb dX8_lastLiterals_1 hl (by decide) rfl (fun ls hl => ?_)
  refine lv_iload hx hb dX8_lastLiterals_3 (lv_at hl 6 rfl) ?_
  refine lv_iload hx hb dX8_lastLiterals_5 (lv_at hl 5 rfl) ?_
  refine n_isub hx hb dX8_lastLiterals_7 (by omega) ?_
  refine lv_iconst (v := nI 1) hx hb dX8_lastLiterals_8 (by decide +kernel) ?_
  refine lv_iload hx hb dX8_lastLiterals_9 (lv_at hl 0 rfl) ?_
  refine vp_callSi (W.runS (As := [.int (nI w)]) (rest := [.int (nI 1), .int (nI (z - q))]) ⟨hx, hb, hml, hown, hts⟩ (mt_encLen l D cl w hw2) (va_cwS 1 hts (lw_S q306 q245 q18 q246) rfl rfl rfl (by decide +kernel) ⟨Nat.le_of_ble_eq_true rfl, Nat.le_of_ble_eq_true rfl⟩) (pcR_pre (hP.sub [] rfl) (hK.sub [] rfl)) rfl rfl hl.1 rfl (lv_room (Nat.le_of_ble_eq_true rfl)) dX8_lastLiterals_11 ⟨Nat.le_of_ble_eq_true rfl, Nat.le_of_ble_eq_true rfl⟩) (fun r1 hr1 => ?_)
  subst hr1
  refine n_iadd hx hb dX8_lastLiterals_14 ?_
  refine lv_iload hx hb dX8_lastLiterals_15 (lv_at hl 0 rfl) ?_
  refine n_iadd hx hb dX8_lastLiterals_17 ?_
  refine vp_callSi (W.runS (As := [.int (nI (z - q)), .int (nI ((1 + (enc w)) + w))]) (rest := []) ⟨hx, hb, hml, hown, hts⟩ (mt_notEnough l D cl (z - q) (1 + enc w + w) (by omega) (by omega)) (va_cwS 2 hts (lw_S q307 q267 q18 q268) rfl rfl rfl (by decide +kernel) ⟨Nat.le_of_ble_eq_true rfl, Nat.le_of_ble_eq_true rfl⟩) (pcR_pre (hP.sub [] rfl) (hK.sub [] rfl)) rfl rfl hl.1 rfl (lv_room (Nat.le_of_ble_eq_true rfl)) dX8_lastLiterals_18 ⟨Nat.le_of_ble_eq_true rfl, Nat.le_of_ble_eq_true rfl⟩) (fun r2 hr2 => ?_)
  rw [if_neg (by omega)] at hr2
  subst hr2
  refine lv_if_eq (tgt := 32) hx hb dX8_lastLiterals_21 (by decide) (fun c__1 => ?_) (fun c__1 => absurd rfl c__1)
  refine lv_iload hx hb dX8_lastLiterals_32 (lv_at hl 0 rfl) ?_
  refine lv_bipush (v := nI 15) hx hb dX8_lastLiterals_34 (by decide +kernel) ?_
  refine n_cut 76 (fun H locs ls cells slots => ∃ h : Nat → Int32, (∀ j : Nat, j < q → h j = g j) ∧ h q = by8 (m15 w * 16) ∧ zExt h (q + 1) w ∧ aB h ∧ lv_has ls 7 [(0, .ref b0), (1, .int (nI so)), (3, .ref a0), (4, .int (nI (q + 1 + enc w))), (6, .int (nI w))] ∧ va_P D cl [(b0, .inl (d1, M, .inl f)), (a0, .inl (d0, N, .inl h))] H ∧ va_D A [(b0, .inl (d1, M, .inl f)), (a0, .inl (d0, N, .inl h))] ∧ va_S A s.heap H locs ∧ cells = 0 ∧ slots = 0) ?_ (fun K => ?_)
  · intro H locs ls cells slots hI
    obtain ⟨h, hh1, hh2, hh3, hh, hl, hP, hD, hS, rfl, rfl⟩ := hI
    refine lv_aload_n hx hb dX8_lastLiterals_76 rfl (lv_at hl 0 rfl) ?_
    refine lv_iload_n hx hb dX8_lastLiterals_77 rfl (lv_at hl 1 rfl) ?_
    refine lv_aload_n hx hb dX8_lastLiterals_78 rfl (lv_at hl 2 rfl) ?_
    refine lv_iload hx hb dX8_lastLiterals_79 (lv_at hl 3 rfl) ?_
    refine lv_iload hx hb dX8_lastLiterals_81 (lv_at hl 4 rfl) ?_
    refine n_copy hx hb (by rw [hml]; exact hl.1.symm) hown (hts _ q319) (hts _ q321) (hts _ q320) (hts _ q22) hK hP hD hS 0 1 0 1 rfl rfl rfl rfl (by omega) (by omega) (by omega) (by omega) (fun i _ => bB_fits (hf _)) (Nat.le_of_ble_eq_true rfl) (by decide +kernel) dX8_lastLiterals_83 (fun H locs hP hD hS => ?_)
    have hP : va_P D cl [(b0, .inl (d1, M, .inl f)), (a0, .inl (d0, N, .inl (va_cpy f h so (q + 1 + enc w) w)))] H := hP
    have hD : va_D A [(b0, .inl (d1, M, .inl f)), (a0, .inl (d0, N, .inl (va_cpy f h so (q + 1 + enc w) w)))] := hD
    refine lv_iload hx hb dX8_lastLiterals_86 (lv_at hl 3 rfl) ?_
    refine lv_iload hx hb dX8_lastLiterals_88 (lv_at hl 4 rfl) ?_
    refine n_iadd hx hb dX8_lastLiterals_90 ?_
    refine lv_istore (lv' := [(4, .int (nI ((q + 1 + enc w) + w))), (0, .ref b0), (1, .int (nI so)), (3, .ref a0), (6, .int (nI w))]) hx hb dX8_lastLiterals_91 hl (by decide) rfl (fun ls hl => ?_)
    refine lv_iload hx hb dX8_lastLiterals_93 (lv_at hl 0 rfl) ?_
    exact W.iret (v := nI ((q + 1 + enc w) + w)) hx hb hr (fun t ht hW => ⟨⟨nI ((q + 1 + enc w) + w), _, rfl, ⟨rfl, fun j hj => by rw [pk_cpy_out (by omega)]; exact hh1 j hj, ⟨by rw [pk_cpy_out (by omega)]; exact hh2, hh3.keep (fun j _ _ => pk_cpy_out (by omega)), fun i hi => cpy_in9 hi⟩, aB_cpy hf hh⟩, n_hP ht hP⟩, hS.F ht⟩) hS.2.2 dX8_lastLiterals_95
  · refine n_icmp_lt (tgt := 64) hx hb dX8_lastLiterals_36 (by decide) (by omega) (by omega) (fun c__2 => ?_) (fun c__2 => ?_)
    · refine lv_aload_n hx hb dX8_lastLiterals_64 rfl (lv_at hl 4 rfl) ?_
      refine lv_iload hx hb dX8_lastLiterals_65 (lv_at hl 5 rfl) ?_
      refine lv_iinc (v := nI (q + 1)) (lv' := [(4, .int (nI (q + 1))), (6, .int (nI w)), (0, .ref b0), (1, .int (nI so)), (2, .int (nI w)), (3, .ref a0), (5, .int (nI z))]) hx hb dX8_lastLiterals_67 hl (k := 5) rfl (n_inc _ 1 (by decide +kernel)) (by decide) rfl (fun ls hl => ?_)
      refine lv_iload hx hb dX8_lastLiterals_70 (lv_at hl 1 rfl) ?_
      refine lv_iconst (v := nI 4) hx hb dX8_lastLiterals_72 (by decide +kernel) ?_
      refine lv_ishl hx hb dX8_lastLiterals_73 ?_
      refine n_topI (y := nI (w * 16)) (shl4 (by omega)) ?_
      refine lv_i2b hx hb dX8_lastLiterals_74 rfl ?_
      refine n_bast hx hb hK hP hD hS 1 1 rfl rfl (by omega) (by omega) dX8_lastLiterals_75 (fun H locs hP hD hS => ?_)
      have hP : va_P D cl [(b0, .inl (d1, M, .inl f)), (a0, .inl (d0, N, .inl (upd g q (vp_nar .byte ((nI (w * 16)).toInt8.toInt32)))))] H := hP
      have hD : va_D A [(b0, .inl (d1, M, .inl f)), (a0, .inl (d0, N, .inl (upd g q (vp_nar .byte ((nI (w * 16)).toInt8.toInt32)))))] := hD
      have e1 := enc_lo c__2
      have e2 : q + 1 = q + 1 + enc w := by omega
      have e3 := m15_lo c__2
      refine K _ _ _ _ _ ⟨upd g q (vp_nar .byte (nI (w * 16)).toInt8.toInt32), fun j hj => pk_un (by omega), by rw [pk_us, e3]; exact by8_nar _, fun h9 => absurd h9 (by omega), aB_upd hg (bB_nar _), by rw [← e2]; exact (lv_sub hl [2, 3, 5, 0, 1] rfl), hP, hD, hS, rfl, rfl⟩
    · refine lv_aload_n hx hb dX8_lastLiterals_39 rfl (lv_at hl 4 rfl) ?_
      refine lv_iload hx hb dX8_lastLiterals_40 (lv_at hl 5 rfl) ?_
      refine lv_iinc (v := nI (q + 1)) (lv' := [(4, .int (nI (q + 1))), (6, .int (nI w)), (0, .ref b0), (1, .int (nI so)), (2, .int (nI w)), (3, .ref a0), (5, .int (nI z))]) hx hb dX8_lastLiterals_42 hl (k := 5) rfl (n_inc _ 1 (by decide +kernel)) (by decide) rfl (fun ls hl => ?_)
      refine lv_bipush (v := -16) hx hb dX8_lastLiterals_45 (by decide +kernel) ?_
      refine n_bast hx hb hK hP hD hS 1 1 rfl rfl (by omega) (by omega) dX8_lastLiterals_47 (fun H locs hP hD hS => ?_)
      have hP : va_P D cl [(b0, .inl (d1, M, .inl f)), (a0, .inl (d0, N, .inl (upd g q (vp_nar .byte ((-16))))))] H := hP
      have hD : va_D A [(b0, .inl (d1, M, .inl f)), (a0, .inl (d0, N, .inl (upd g q (vp_nar .byte ((-16))))))] := hD
      refine lv_iload hx hb dX8_lastLiterals_48 (lv_at hl 1 rfl) ?_
      refine lv_bipush (v := nI 15) hx hb dX8_lastLiterals_50 (by decide +kernel) ?_
      refine n_isub hx hb dX8_lastLiterals_52 (by omega) ?_
      refine lv_aload_n hx hb dX8_lastLiterals_53 rfl (lv_at hl 5 rfl) ?_
      refine lv_iload hx hb dX8_lastLiterals_54 (lv_at hl 0 rfl) ?_
      have e1 := enc_hi (v := w) (by omega)
      refine n_calli (va_runS (As := [.int (nI (w - 15)), .ref a0, .int (nI (q + 1))]) (rest := []) ⟨hx, hb, hml, hown, hts⟩ (mt_writeLen l D cl a0 d0 N (upd g q (vp_nar .byte (-16))) (w - 15) (q + 1) hN (by omega) (by omega) (aB_upd hg (bB_nar _)) H.size) (va_cwS 3 hts (lw_S q318 q276 q19 q277) rfl rfl rfl (by decide +kernel) ⟨Nat.le_of_ble_eq_true rfl, Nat.le_of_ble_eq_true rfl⟩) (pcW_pre (hP.sub [1] rfl) (hK.sub [1] rfl) (hD.sub [1] (by decide) rfl)) rfl rfl hl.1 rfl (lv_room (Nat.le_of_ble_eq_true rfl)) dX8_lastLiterals_56 ⟨Nat.le_of_ble_eq_true rfl, Nat.le_of_ble_eq_true rfl⟩) hP hD hS hA [1] rfl (fun _ => rfl) (fun r3 h H locs hw hP hD hS => ?_)
      have hP : va_P D cl [(b0, .inl (d1, M, .inl f)), (a0, .inl (d0, N, .inl h))] H := hP
      have hD : va_D A [(b0, .inl (d1, M, .inl f)), (a0, .inl (d0, N, .inl h))] := hD
      obtain ⟨rfl, hw3, hw4, hw5⟩ := hw
      refine lv_istore (lv' := [(4, .int (nI (q + 1 + (w - 15) / 255 + 1))), (6, .int (nI w)), (0, .ref b0), (1, .int (nI so)), (2, .int (nI w)), (3, .ref a0), (5, .int (nI z))]) hx hb dX8_lastLiterals_59 hl (by decide) rfl (fun ls hl => ?_)
      refine lv_goto (tgt := 76) hx hb dX8_lastLiterals_61 (by decide) ?_
      have e2 : q + 1 + (w - 15) / 255 + 1 = q + 1 + enc w := by omega
      have e3 := m15_hi (v := w) (by omega)
      refine K _ _ _ _ _ ⟨h, fun j hj => by rw [hw3 j (by omega), pk_un (by omega)], by rw [hw3 q (by omega), pk_us, e3]; exact by8_m16, fun _ => hw4, hw5, by rw [← e2]; exact (lv_sub hl [2, 3, 5, 0, 1] rfl), hP, hD, hS, rfl, rfl⟩
end
section
/-! LZ4Utils.sequenceLength -/
theorem lcmp0 (a b : Nat) (ha : a < 2147483648) (hb : b < 2147483648) (h : a ≤ b) : ∃ x : Int32, lg_cmp (lN a) (lN b) = x ∧ x ≤ 0 := by
  refine ⟨_, rfl, ?_⟩
  unfold lg_cmp
  have h1 : ¬ lN b < lN a := fun q => by have := (lN_lt hb ha).mp q; omega
  rw [if_neg h1]
  split <;> decide

set_option maxHeartbeats 4000000 in
set_option maxRecDepth 100000 in
theorem mt_seqLen (l : Launch) (D : va_G) (cl : List vw_C) (n : Nat) (hn : n < 1000000) : Met l yX7_sequenceLength (ws_ yX7_sequenceLength cX7_sequenceLength 4 (some .int)) ({ frames := 2, cells := 0, slots := 0, locals := 200 }) (pcR [.int (nI n), .int (nI 0)] D cl [] []) (vp_Si (fun r : Int32 => r = nI (1 + enc n + n + 2))) 0 0 (fun _ => False) := by
  refine n_metR (by decide) (Nat.le_of_ble_eq_true rfl) ?_
  intro p e s m below meth c hx hb hr hlocks hml hown hin hts hP hK ls hl
  have hown : s.vm.findClass "LZ4Utils" = some m.cls := hown
  have hl : lv_has ls 4 [(0, .int (nI n)), (1, .int (nI 0))] := hl
  have he := enc_le n
  have e0 := enc_lo (v := 0) (by omega)
  refine lv_lconst (v := lN 1) hx hb dX7_sequenceLength_0 (by decide +kernel) ?_
  refine lv_iload_n hx hb dX7_sequenceLength_1 rfl (lv_at hl 0 rfl) ?_
  refine vp_callSi (W.runS (As := [.int (nI n)]) (rest := [.long (lN 1)]) ⟨hx, hb, hml, hown, hts⟩ (mt_encLen l D cl n (by omega)) (va_cwS 1 hts (lw_S q244 q245 q18 q246) rfl rfl rfl (by decide +kernel) ⟨Nat.le_of_ble_eq_true rfl, Nat.le_of_ble_eq_true rfl⟩) (pcR_pre (hP.sub [] rfl) (hK.sub [] rfl)) rfl rfl hl.1 rfl (lv_room (Nat.le_of_ble_eq_true rfl)) dX7_sequenceLength_2 ⟨Nat.le_of_ble_eq_true rfl, Nat.le_of_ble_eq_true rfl⟩) (fun r1 hr1 => ?_)
  subst hr1
  refine lv_i2l hx hb dX7_sequenceLength_5 (nI_l (by omega)) ?_
  refine lv_ladd hx hb dX7_sequenceLength_6 ?_
  refine n_topM (lN_add _ _) ?_
  refine lv_iload_n hx hb dX7_sequenceLength_7 rfl (lv_at hl 0 rfl) ?_
  refine lv_i2l hx hb dX7_sequenceLength_8 (nI_l (by omega)) ?_
  refine lv_ladd hx hb dX7_sequenceLength_9 ?_
  refine n_topM (lN_add _ _) ?_
  refine lv_ldc2 hx hb hown (hts _ q247) dX7_sequenceLength_10 ?_
  refine n_topM (y := lN 2) (by decide +kernel) ?_
  refine lv_ladd hx hb dX7_sequenceLength_13 ?_
  refine n_topM (lN_add _ _) ?_
  refine lv_iload_n hx hb dX7_sequenceLength_14 rfl (lv_at hl 1 rfl) ?_
  refine vp_callSi (W.runS (As := [.int (nI 0)]) (rest := [.long (lN (((1 + (enc n)) + n) + 2))]) ⟨hx, hb, hml, hown, hts⟩ (mt_encLen l D cl 0 (by omega)) (va_cwS 1 hts (lw_S q244 q245 q18 q246) rfl rfl rfl (by decide +kernel) ⟨Nat.le_of_ble_eq_true rfl, Nat.le_of_ble_eq_true rfl⟩) (pcR_pre (hP.sub [] rfl) (hK.sub [] rfl)) rfl rfl hl.1 rfl (lv_room (Nat.le_of_ble_eq_true rfl)) dX7_sequenceLength_15 ⟨Nat.le_of_ble_eq_true rfl, Nat.le_of_ble_eq_true rfl⟩) (fun r2 hr2 => ?_)
  subst hr2
  refine lv_i2l hx hb dX7_sequenceLength_18 (nI_l (by omega)) ?_
  refine lv_ladd hx hb dX7_sequenceLength_19 ?_
  refine n_topM (lN_add _ _) ?_
  refine lv_lstore_n (lv' := [(2, .long (lN ((((1 + (enc n)) + n) + 2) + (enc 0)))), (0, .int (nI n)), (1, .int (nI 0))]) hx hb dX7_sequenceLength_20 rfl hl (by decide) rfl (fun ls hl => ?_)
  refine lv_lload_n hx hb dX7_sequenceLength_21 rfl (lv_at hl 0 rfl) ?_
  refine lv_ldc2 hx hb hown (hts _ q248) dX7_sequenceLength_22 ?_
  refine n_topM (y := lN 2147483647) (by decide +kernel) ?_
  refine W.lcmp hx hb dX7_sequenceLength_25 ?_
  refine n_topI (lcmp0 _ _ (by omega) (by omega) (by omega)).choose_spec.1 ?_
  refine lv_if_le (tgt := 39) hx hb dX7_sequenceLength_26 (by decide) (fun _ => ?_) (fun h9 => absurd (lcmp0 _ _ (by omega) (by omega) (by omega)).choose_spec.2 h9)
  refine lv_lload_n hx hb dX7_sequenceLength_39 rfl (lv_at hl 0 rfl) ?_
  refine lv_l2i hx hb dX7_sequenceLength_40 (lN_i _) ?_
  exact W.iret (v := nI ((((1 + (enc n)) + n) + 2) + (enc 0))) hx hb hr (fun t ht hW => ⟨_, rfl, by rw [e0], ht⟩) (fun _ h9 => nomatch h9) dX7_sequenceLength_41
end
section
/-! compress64k -/
theorem off_short {k : Nat} (h : k < 32768) : (nI k).toInt16.toInt32 = nI k := by
  apply Int32.toBitVec_inj.mp
  rw [Int16.toBitVec_toInt32, Int32.toBitVec_toInt16]
  apply BitVec.eq_of_toInt_eq
  rw [BitVec.toInt_signExtend_of_le (by decide)]
  have e : (nI k).toBitVec = BitVec.ofNat 32 k := rfl
  rw [e, BitVec.signExtend_eq_setWidth_of_le _ (by decide), BitVec.toInt_setWidth, BitVec.toNat_ofNat, show (BitVec.ofNat 32 k).toInt = (k : Int) from nI_toInt (by omega), Int.bmod_def]
  split <;> omega
theorem off_lo (k : Nat) : (nI k).toInt8.toInt32 = by8 (k % 256) := by
  unfold by8
  have e : (nI k).toInt8 = (nI (k % 256)).toInt8 := by
    apply Int8.toBitVec_inj.mp
    rw [Int32.toBitVec_toInt8, Int32.toBitVec_toInt8]
    apply BitVec.eq_of_toNat_eq
    have e1 : (nI k).toBitVec = BitVec.ofNat 32 k := rfl
    have e2 : (nI (k % 256)).toBitVec = BitVec.ofNat 32 (k % 256) := rfl
    rw [e1, e2, BitVec.signExtend_eq_setWidth_of_le _ (by decide), BitVec.signExtend_eq_setWidth_of_le _ (by decide), BitVec.toNat_setWidth, BitVec.toNat_setWidth, BitVec.toNat_ofNat, BitVec.toNat_ofNat]
    omega
  rw [e]
theorem off_hi {k : Nat} (h : k < 65536) : (((nI k).toUInt32 >>> ((nI 8).toUInt32 &&& Int32.toUInt32 31)).toInt32).toInt8.toInt32 = by8 (k / 256) := by
  rw [pk_ushrN (by omega) (nI 8) 8 (by decide +kernel), off_lo]
  congr 1
  omega

set_option maxHeartbeats 4000000 in
set_option maxRecDepth 100000 in
/-- compress64k: a block of the first n bytes -/
theorem mt_c64 (l : Launch) (D : va_G) (cl : List vw_C) (b0 : Nat) (d1 : ClassId) (f : Nat → Int32) (a0 : Nat) (d0 : ClassId) (g : Nat → Int32) (n : Nat) (hn : n ≤ 16384) (hf : aB f) (hg : aB g) (sz : Nat) : Met l yX2_compress64k (ws_ yX2_compress64k cX2_compress64k 22 (some .int)) ({ frames := 4, cells := 1, slots := 8192, locals := 500 }) (pcZ [.ref b0, .int (nI 0), .int (nI n), .ref a0, .int (nI 0), .int (nI 16464)] D cl [(b0, .inl (d1, 16384, .inl f)), (a0, .inl (d0, 16464, .inl g))] [(d1, .byte), (d0, .byte)] sz) (va_Qi (fun (r : Int32) (u : Nat → Int32) => ∃ e9 : Nat, r = nI e9 ∧ zBlock f u n e9 ∧ 255 * e9 ≤ 256 * n + 495 ∧ aB u) (fun (u : Nat → Int32) t => va_P D cl [(b0, .inl (d1, 16384, .inl f)), (a0, .inl (d0, 16464, .inl u))] t.heap) (va_A [(b0, .inl (d1, 16384, .inl f)), (a0, .inl (d0, 16464, .inl g))] sz)) 1 8192 (va_A [(b0, .inl (d1, 16384, .inl f)), (a0, .inl (d0, 16464, .inl g))] sz) := by
  refine n_metZ (Qc := fun A => va_Qi (fun (r : Int32) (u : Nat → Int32) => ∃ e9 : Nat, r = nI e9 ∧ zBlock f u n e9 ∧ 255 * e9 ≤ 256 * n + 495 ∧ aB u) (fun (u : Nat → Int32) t => va_P D cl [(b0, .inl (d1, 16384, .inl f)), (a0, .inl (d0, 16464, .inl u))] t.heap) A) (by decide) (Nat.le_of_ble_eq_true rfl) ?_
  intro p e s m below meth c hx hb hr hlocks hml hown hin hts hP hK A hsz hD hA hS hZ ls hl
  have hown : s.vm.findClass "LZ4JavaSafeCompressor" = some m.cls := hown
  have hl : lv_has ls 22 [(0, .ref b0), (1, .int (nI 0)), (2, .int (nI n)), (3, .ref a0), (4, .int (nI 0)), (5, .int (nI 16464))] := hl
  refine n_cut 499 (fun H locs ls cells slots => ∃ k : Nat, ∃ s1 : Nat, ∃ p1 : Nat, ∃ h : Nat → Int32, (zPre f h n k s1 p1) ∧ (s1 ≤ n) ∧ (aB h) ∧ lv_has ls 22 [(0, .ref b0), (3, .ref a0), (4, .int (nI 0)), (5, .int (nI 16464)), (6, .int (nI n)), (10, .int (nI p1)), (11, .int (nI s1))] ∧ va_P D cl [(b0, .inl (d1, 16384, .inl f)), (a0, .inl (d0, 16464, .inl h))] H ∧ va_D A [(b0, .inl (d1, 16384, .inl f)), (a0, .inl (d0, 16464, .inl h))] ∧ va_S A s.heap H locs ∧ cells = 1 ∧ slots = 8192) ?_ (fun E => ?_)
  · intro H locs ls cells slots hI
    obtain ⟨k, s1, p1, h, hz, hs1, hh, hl, hP, hD, hS, rfl, rfl⟩ := hI
    have hbd := hz.bound
    have hen := enc_le (n - s1)
    refine lv_aload_n hx hb dX2_compress64k_499 rfl (lv_at hl 0 rfl) ?_
    refine lv_iload hx hb dX2_compress64k_500 (lv_at hl 6 rfl) ?_
    refine lv_iload hx hb dX2_compress64k_502 (lv_at hl 4 rfl) ?_
    refine lv_iload hx hb dX2_compress64k_504 (lv_at hl 6 rfl) ?_
    refine n_isub hx hb dX2_compress64k_506 (by omega) ?_
    refine lv_aload_n hx hb dX2_compress64k_507 rfl (lv_at hl 1 rfl) ?_
    refine lv_iload hx hb dX2_compress64k_508 (lv_at hl 5 rfl) ?_
    refine lv_iload hx hb dX2_compress64k_510 (lv_at hl 3 rfl) ?_
    refine n_calli (va_runS (As := [.ref b0, .int (nI s1), .int (nI (n - s1)), .ref a0, .int (nI p1), .int (nI 16464)]) (rest := []) ⟨hx, hb, hml, hown, hts⟩ (mt_last l D cl b0 d1 16384 f a0 d0 16464 h s1 (n - s1) p1 16464 (by omega) (by omega) (by omega) (by omega) (by omega) hf hh H.size) (va_cwS 6 hts (lw_S q303 q304 q19 q305) rfl rfl rfl (by decide +kernel) ⟨Nat.le_of_ble_eq_true rfl, Nat.le_of_ble_eq_true rfl⟩) (pcW_pre (hP.sub [0, 1] rfl) (hK.sub [0, 1] rfl) (hD.sub [0, 1] (by decide) rfl)) rfl rfl hl.1 rfl (lv_room (Nat.le_of_ble_eq_true rfl)) dX2_compress64k_512 ⟨Nat.le_of_ble_eq_true rfl, Nat.le_of_ble_eq_true rfl⟩) hP hD hS hA [0, 1] rfl (fun _ => rfl) (fun r1 h2 H locs hw hP hD hS => ?_)
    have hP : va_P D cl [(b0, .inl (d1, 16384, .inl f)), (a0, .inl (d0, 16464, .inl h2))] H := hP
    have hD : va_D A [(b0, .inl (d1, 16384, .inl f)), (a0, .inl (d0, 16464, .inl h2))] := hD
    obtain ⟨rfl, hw1, hw2, hw3⟩ := hw
    refine lv_istore (lv' := [(10, .int (nI (p1 + 1 + enc (n - s1) + (n - s1)))), (0, .ref b0), (3, .ref a0), (4, .int (nI 0)), (5, .int (nI 16464)), (6, .int (nI n)), (11, .int (nI s1))]) hx hb dX2_compress64k_515 hl (by decide) rfl (fun ls hl => ?_)
    refine lv_iload hx hb dX2_compress64k_517 (lv_at hl 0 rfl) ?_
    refine lv_iload hx hb dX2_compress64k_519 (lv_at hl 3 rfl) ?_
    refine n_isub hx hb dX2_compress64k_521 (by omega) ?_
    exact W.iret (v := nI ((p1 + 1 + enc (n - s1) + (n - s1)) - 0)) hx hb hr (fun t ht hW => ⟨⟨nI ((p1 + 1 + enc (n - s1) + (n - s1)) - 0), h2, rfl, ⟨_, rfl, (hz.keep hw1).dec (j := 0) ⟨hw2, hs1, rfl⟩, by omega, hw3⟩, n_hP ht hP⟩, hS.F ht⟩) hS.2.2 dX2_compress64k_522
  rcases Nat.lt_or_ge n 13 with hc | hc
  · refine lv_iload_n hx hb dX2_compress64k_0 rfl (lv_at hl 1 rfl) ?_
    refine lv_iload_n hx hb dX2_compress64k_1 rfl (lv_at hl 2 rfl) ?_
    refine n_iadd hx hb dX2_compress64k_2 ?_
    refine n_top (b := n) (by omega) ?_
    refine lv_istore (lv' := [(6, .int (nI n)), (0, .ref b0), (1, .int (nI 0)), (2, .int (nI n)), (3, .ref a0), (4, .int (nI 0)), (5, .int (nI 16464))]) hx hb dX2_compress64k_3 hl (by decide) rfl (fun ls hl => ?_)
    refine lv_iload hx hb dX2_compress64k_5 (lv_at hl 0 rfl) ?_
    refine lv_iconst (v := nI 5) hx hb dX2_compress64k_7 (by decide +kernel) ?_
    refine lv_isub hx hb dX2_compress64k_8 ?_
    refine lv_istore (lv' := [(7, .int ((nI n) - (nI 5))), (6, .int (nI n)), (0, .ref b0), (1, .int (nI 0)), (2, .int (nI n)), (3, .ref a0), (4, .int (nI 0)), (5, .int (nI 16464))]) hx hb dX2_compress64k_9 hl (by decide) rfl (fun ls hl => ?_)
    refine lv_iload hx hb dX2_compress64k_11 (lv_at hl 1 rfl) ?_
    refine lv_bipush (v := nI 12) hx hb dX2_compress64k_13 (by decide +kernel) ?_
    refine lv_isub hx hb dX2_compress64k_15 ?_
    refine lv_istore (lv' := [(8, .int ((nI n) - (nI 12))), (7, .int ((nI n) - (nI 5))), (6, .int (nI n)), (0, .ref b0), (1, .int (nI 0)), (2, .int (nI n)), (3, .ref a0), (4, .int (nI 0)), (5, .int (nI 16464))]) hx hb dX2_compress64k_16 hl (by decide) rfl (fun ls hl => ?_)
    refine lv_iload_n hx hb dX2_compress64k_18 rfl (lv_at hl 4 rfl) ?_
    refine lv_istore (lv' := [(9, .int (nI 0)), (8, .int ((nI n) - (nI 12))), (7, .int ((nI n) - (nI 5))), (6, .int (nI n)), (0, .ref b0), (1, .int (nI 0)), (2, .int (nI n)), (3, .ref a0), (4, .int (nI 0)), (5, .int (nI 16464))]) hx hb dX2_compress64k_19 hl (by decide) rfl (fun ls hl => ?_)
    refine lv_iload hx hb dX2_compress64k_21 (lv_at hl 8 rfl) ?_
    refine lv_istore (lv' := [(10, .int (nI 0)), (9, .int (nI 0)), (8, .int ((nI n) - (nI 12))), (7, .int ((nI n) - (nI 5))), (6, .int (nI n)), (0, .ref b0), (1, .int (nI 0)), (2, .int (nI n)), (3, .ref a0), (4, .int (nI 0)), (5, .int (nI 16464))]) hx hb dX2_compress64k_23 hl (by decide) rfl (fun ls hl => ?_)
    refine lv_iload hx hb dX2_compress64k_25 (lv_at hl 1 rfl) ?_
    refine lv_istore (lv' := [(11, .int (nI 0)), (10, .int (nI 0)), (9, .int (nI 0)), (8, .int ((nI n) - (nI 12))), (7, .int ((nI n) - (nI 5))), (6, .int (nI n)), (0, .ref b0), (1, .int (nI 0)), (2, .int (nI n)), (3, .ref a0), (4, .int (nI 0)), (5, .int (nI 16464))]) hx hb dX2_compress64k_27 hl (by decide) rfl (fun ls hl => ?_)
    refine lv_iload_n hx hb dX2_compress64k_29 rfl (lv_at hl 8 rfl) ?_
    refine lv_bipush (v := nI 13) hx hb dX2_compress64k_30 (by decide +kernel) ?_
    refine n_icmp_lt (tgt := 499) hx hb dX2_compress64k_32 (by decide) (by omega) (by omega) (fun c__1 => ?_) (fun c__1 => (by exfalso; omega))
    refine W.widen (k := 1) (n := 8192) (by omega) (by omega) ?_
    exact E _ _ _ _ _ ⟨0, 0, 0, g, ⟨rfl, rfl⟩, by omega, hg, (lv_sub hl [6, 9, 10, 11, 5, 1, 0] rfl), hP, hD, hS, rfl, rfl⟩
  · refine lv_iload_n hx hb dX2_compress64k_0 rfl (lv_at hl 1 rfl) ?_
    refine lv_iload_n hx hb dX2_compress64k_1 rfl (lv_at hl 2 rfl) ?_
    refine n_iadd hx hb dX2_compress64k_2 ?_
    refine n_top (b := n) (by omega) ?_
    refine lv_istore (lv' := [(6, .int (nI n)), (0, .ref b0), (1, .int (nI 0)), (2, .int (nI n)), (3, .ref a0), (4, .int (nI 0)), (5, .int (nI 16464))]) hx hb dX2_compress64k_3 hl (by decide) rfl (fun ls hl => ?_)
    refine lv_iload hx hb dX2_compress64k_5 (lv_at hl 0 rfl) ?_
    refine lv_iconst (v := nI 5) hx hb dX2_compress64k_7 (by decide +kernel) ?_
    refine n_isub hx hb dX2_compress64k_8 (by omega) ?_
    refine lv_istore (lv' := [(7, .int (nI (n - 5))), (6, .int (nI n)), (0, .ref b0), (1, .int (nI 0)), (2, .int (nI n)), (3, .ref a0), (4, .int (nI 0)), (5, .int (nI 16464))]) hx hb dX2_compress64k_9 hl (by decide) rfl (fun ls hl => ?_)
    refine lv_iload hx hb dX2_compress64k_11 (lv_at hl 1 rfl) ?_
    refine lv_bipush (v := nI 12) hx hb dX2_compress64k_13 (by decide +kernel) ?_
    refine n_isub hx hb dX2_compress64k_15 (by omega) ?_
    refine lv_istore (lv' := [(8, .int (nI (n - 12))), (7, .int (nI (n - 5))), (6, .int (nI n)), (0, .ref b0), (1, .int (nI 0)), (2, .int (nI n)), (3, .ref a0), (4, .int (nI 0)), (5, .int (nI 16464))]) hx hb dX2_compress64k_16 hl (by decide) rfl (fun ls hl => ?_)
    refine lv_iload_n hx hb dX2_compress64k_18 rfl (lv_at hl 4 rfl) ?_
    refine lv_istore (lv' := [(9, .int (nI 0)), (8, .int (nI (n - 12))), (7, .int (nI (n - 5))), (6, .int (nI n)), (0, .ref b0), (1, .int (nI 0)), (2, .int (nI n)), (3, .ref a0), (4, .int (nI 0)), (5, .int (nI 16464))]) hx hb dX2_compress64k_19 hl (by decide) rfl (fun ls hl => ?_)
    refine lv_iload hx hb dX2_compress64k_21 (lv_at hl 8 rfl) ?_
    refine lv_istore (lv' := [(10, .int (nI 0)), (9, .int (nI 0)), (8, .int (nI (n - 12))), (7, .int (nI (n - 5))), (6, .int (nI n)), (0, .ref b0), (1, .int (nI 0)), (2, .int (nI n)), (3, .ref a0), (4, .int (nI 0)), (5, .int (nI 16464))]) hx hb dX2_compress64k_23 hl (by decide) rfl (fun ls hl => ?_)
    refine lv_iload hx hb dX2_compress64k_25 (lv_at hl 1 rfl) ?_
    refine lv_istore (lv' := [(11, .int (nI 0)), (10, .int (nI 0)), (9, .int (nI 0)), (8, .int (nI (n - 12))), (7, .int (nI (n - 5))), (6, .int (nI n)), (0, .ref b0), (1, .int (nI 0)), (2, .int (nI n)), (3, .ref a0), (4, .int (nI 0)), (5, .int (nI 16464))]) hx hb dX2_compress64k_27 hl (by decide) rfl (fun ls hl => ?_)
    refine lv_iload_n hx hb dX2_compress64k_29 rfl (lv_at hl 8 rfl) ?_
    refine lv_bipush (v := nI 13) hx hb dX2_compress64k_30 (by decide +kernel) ?_
    refine n_icmp_lt (tgt := 499) hx hb dX2_compress64k_32 (by decide) (by omega) (by omega) (fun c__2 => (by exfalso; omega)) (fun c__2 => ?_)
    refine lv_sipush (v := nI 8192) hx hb dX2_compress64k_35 (by decide +kernel) ?_
    refine va_newa (atype := .short) (ty := .short) (a0 := (8192, .inl (fun _ => 0))) (N' := 8192) hx hb (hts _ q265) rfl hK hP hD hS hA (fun _ => rfl) (nI_pos (by omega)) (nI_clamp (by omega)) (Nat.le_of_ble_eq_true rfl) (Nat.le_of_ble_eq_true rfl) (Nat.le_of_ble_eq_true rfl) dX2_compress64k_38 (fun q d2 H hK hP hD hS => ?_)
    have hK : va_K D cl [(d1, .byte), (d0, .byte), (d2, .short)] s := hK
    have hP : va_P D cl [(b0, .inl (d1, 16384, .inl f)), (a0, .inl (d0, 16464, .inl g)), (q, .inl (d2, 8192, .inl ((fun _ => 0))))] H := hP
    have hD : va_D A [(b0, .inl (d1, 16384, .inl f)), (a0, .inl (d0, 16464, .inl g)), (q, .inl (d2, 8192, .inl ((fun _ => 0))))] := hD
    refine lv_astore (lv' := [(12, .ref q), (11, .int (nI 0)), (10, .int (nI 0)), (9, .int (nI 0)), (8, .int (nI (n - 12))), (7, .int (nI (n - 5))), (6, .int (nI n)), (0, .ref b0), (1, .int (nI 0)), (2, .int (nI n)), (3, .ref a0), (4, .int (nI 0)), (5, .int (nI 16464))]) hx hb dX2_compress64k_40 hl (by decide) rfl (fun ls hl => ?_)
    refine lv_iinc (v := nI (0 + 1)) (lv' := [(9, .int (nI (0 + 1))), (12, .ref q), (11, .int (nI 0)), (10, .int (nI 0)), (8, .int (nI (n - 12))), (7, .int (nI (n - 5))), (6, .int (nI n)), (0, .ref b0), (1, .int (nI 0)), (2, .int (nI n)), (3, .ref a0), (4, .int (nI 0)), (5, .int (nI 16464))]) hx hb dX2_compress64k_42 hl (k := 3) rfl (n_inc _ 1 (by decide +kernel)) (by decide) rfl (fun ls hl => ?_)
    refine n_loopAt 45 (fun n9 H locs ls cells slots => ∃ k : Nat, ∃ s1 : Nat, ∃ p1 : Nat, ∃ h : Nat → Int32, ∃ t : Nat → Int32, (n9 = n - s1) ∧ (zPre f h n k s1 p1) ∧ (s1 + 12 ≤ n) ∧ (zTab t (s1 + 1)) ∧ (aB h) ∧ lv_has ls 22 [(0, .ref b0), (1, .int (nI 0)), (3, .ref a0), (4, .int (nI 0)), (5, .int (nI 16464)), (6, .int (nI n)), (7, .int (nI (n - 5))), (8, .int (nI (n - 12))), (9, .int (nI (s1 + 1))), (10, .int (nI p1)), (11, .int (nI s1)), (12, .ref q)] ∧ va_P D cl [(b0, .inl (d1, 16384, .inl f)), (a0, .inl (d0, 16464, .inl h)), (q, .inl (d2, 8192, .inl t))] H ∧ va_D A [(b0, .inl (d1, 16384, .inl f)), (a0, .inl (d0, 16464, .inl h)), (q, .inl (d2, 8192, .inl t))] ∧ va_S A s.heap H locs ∧ cells = 1 ∧ slots = 8192) n ⟨0, 0, 0, g, _, rfl, ⟨rfl, rfl⟩, by omega, zTab.zero (by omega), hg, (lv_sub hl [7, 8, 10, 11, 12, 6, 5, 4, 0, 3, 2, 1] rfl), hP, hD, hS, rfl, rfl⟩ ?_
    intro n0 ihM H locs ls cells slots hI
    obtain ⟨k, s1, p1, h, t, hn0, hz, hs1, ht, hh, hl, hP, hD, hS, rfl, rfl⟩ := hI
    have hbd := hz.bound
    refine lv_iload hx hb dX2_compress64k_45 (lv_at hl 8 rfl) ?_
    refine lv_istore (lv' := [(13, .int (nI (s1 + 1))), (0, .ref b0), (1, .int (nI 0)), (3, .ref a0), (4, .int (nI 0)), (5, .int (nI 16464)), (6, .int (nI n)), (7, .int (nI (n - 5))), (8, .int (nI (n - 12))), (9, .int (nI (s1 + 1))), (10, .int (nI p1)), (11, .int (nI s1)), (12, .ref q)]) hx hb dX2_compress64k_47 hl (by decide) rfl (fun ls hl => ?_)
    refine lv_iconst (v := nI 1) hx hb dX2_compress64k_49 (by decide +kernel) ?_
    refine lv_istore (lv' := [(15, .int (nI 1)), (13, .int (nI (s1 + 1))), (0, .ref b0), (1, .int (nI 0)), (3, .ref a0), (4, .int (nI 0)), (5, .int (nI 16464)), (6, .int (nI n)), (7, .int (nI (n - 5))), (8, .int (nI (n - 12))), (9, .int (nI (s1 + 1))), (10, .int (nI p1)), (11, .int (nI s1)), (12, .ref q)]) hx hb dX2_compress64k_50 hl (by decide) rfl (fun ls hl => ?_)
    refine lv_iconst (v := nI 1) hx hb dX2_compress64k_52 (by decide +kernel) ?_
    refine va_gets hx hb hZ.1 hS hown (hts _ q216) (fun _ h9 => h9) dX2_compress64k_53 ?_
    refine lv_ishl hx hb dX2_compress64k_56 ?_
    refine n_topI (y := nI 64) (by decide +kernel) ?_
    refine lv_istore (lv' := [(16, .int (nI 64)), (15, .int (nI 1)), (13, .int (nI (s1 + 1))), (0, .ref b0), (1, .int (nI 0)), (3, .ref a0), (4, .int (nI 0)), (5, .int (nI 16464)), (6, .int (nI n)), (7, .int (nI (n - 5))), (8, .int (nI (n - 12))), (9, .int (nI (s1 + 1))), (10, .int (nI p1)), (11, .int (nI s1)), (12, .ref q)]) hx hb dX2_compress64k_57 hl (by decide) rfl (fun ls hl => ?_)
    refine n_loopAt 59 (fun n9 H locs ls cells slots => ∃ fo : Nat, ∃ st : Nat, ∃ nb : Nat, ∃ t : Nat → Int32, (n9 = n - fo) ∧ (s1 < fo) ∧ (fo + 11 ≤ n) ∧ (1 ≤ st) ∧ (st ≤ 1000) ∧ (64 ≤ nb) ∧ (nb ≤ 64 + fo) ∧ (zTab t fo) ∧ lv_has ls 22 [(0, .ref b0), (1, .int (nI 0)), (3, .ref a0), (4, .int (nI 0)), (5, .int (nI 16464)), (6, .int (nI n)), (7, .int (nI (n - 5))), (8, .int (nI (n - 12))), (10, .int (nI p1)), (11, .int (nI s1)), (12, .ref q), (13, .int (nI fo)), (15, .int (nI st)), (16, .int (nI nb))] ∧ va_P D cl [(b0, .inl (d1, 16384, .inl f)), (a0, .inl (d0, 16464, .inl h)), (q, .inl (d2, 8192, .inl t))] H ∧ va_D A [(b0, .inl (d1, 16384, .inl f)), (a0, .inl (d0, 16464, .inl h)), (q, .inl (d2, 8192, .inl t))] ∧ va_S A s.heap H locs ∧ cells = 1 ∧ slots = 8192) (n - (s1 + 1)) ⟨s1 + 1, 1, 64, t, rfl, by omega, by omega, by omega, by omega, by omega, by omega, ht, (lv_sub hl [3, 4, 5, 6, 7, 8, 9, 10, 12, 13, 14, 2, 1, 0] rfl), hP, hD, hS, rfl, rfl⟩ ?_
    intro n1 ihS H locs ls cells slots hI
    obtain ⟨fo, st, nb, t, hn1, hfo, hfo2, hst, hst2, hnb, hnb2, ht, hl, hP, hD, hS, rfl, rfl⟩ := hI
    refine lv_iload hx hb dX2_compress64k_59 (lv_at hl 11 rfl) ?_
    refine lv_istore (lv' := [(9, .int (nI fo)), (0, .ref b0), (1, .int (nI 0)), (3, .ref a0), (4, .int (nI 0)), (5, .int (nI 16464)), (6, .int (nI n)), (7, .int (nI (n - 5))), (8, .int (nI (n - 12))), (10, .int (nI p1)), (11, .int (nI s1)), (12, .ref q), (13, .int (nI fo)), (15, .int (nI st)), (16, .int (nI nb))]) hx hb dX2_compress64k_61 hl (by decide) rfl (fun ls hl => ?_)
    refine lv_iload hx hb dX2_compress64k_63 (lv_at hl 12 rfl) ?_
    refine lv_iload hx hb dX2_compress64k_65 (lv_at hl 13 rfl) ?_
    refine n_iadd hx hb dX2_compress64k_67 ?_
    refine lv_istore (lv' := [(13, .int (nI (fo + st))), (9, .int (nI fo)), (0, .ref b0), (1, .int (nI 0)), (3, .ref a0), (4, .int (nI 0)), (5, .int (nI 16464)), (6, .int (nI n)), (7, .int (nI (n - 5))), (8, .int (nI (n - 12))), (10, .int (nI p1)), (11, .int (nI s1)), (12, .ref q), (15, .int (nI st)), (16, .int (nI nb))]) hx hb dX2_compress64k_68 hl (by decide) rfl (fun ls hl => ?_)
    refine lv_iload hx hb dX2_compress64k_70 (lv_at hl 14 rfl) ?_
    refine lv_iinc (v := nI (nb + 1)) (lv' := [(16, .int (nI (nb + 1))), (13, .int (nI (fo + st))), (9, .int (nI fo)), (0, .ref b0), (1, .int (nI 0)), (3, .ref a0), (4, .int (nI 0)), (5, .int (nI 16464)), (6, .int (nI n)), (7, .int (nI (n - 5))), (8, .int (nI (n - 12))), (10, .int (nI p1)), (11, .int (nI s1)), (12, .ref q), (15, .int (nI st))]) hx hb dX2_compress64k_72 hl (k := 14) rfl (n_inc _ 1 (by decide +kernel)) (by decide) rfl (fun ls hl => ?_)
    refine va_gets hx hb hZ.1 hS hown (hts _ q216) (fun _ h9 => h9) dX2_compress64k_75 ?_
    refine lv_iushr hx hb dX2_compress64k_78 rfl ?_
    refine n_topI (y := nI (nb / 64)) (pk_ushrN (by omega) 6 6 (by decide +kernel)) ?_
    refine lv_istore (lv' := [(15, .int (nI (nb / 64))), (16, .int (nI (nb + 1))), (13, .int (nI (fo + st))), (9, .int (nI fo)), (0, .ref b0), (1, .int (nI 0)), (3, .ref a0), (4, .int (nI 0)), (5, .int (nI 16464)), (6, .int (nI n)), (7, .int (nI (n - 5))), (8, .int (nI (n - 12))), (10, .int (nI p1)), (11, .int (nI s1)), (12, .ref q)]) hx hb dX2_compress64k_79 hl (by decide) rfl (fun ls hl => ?_)
    refine lv_iload hx hb dX2_compress64k_81 (lv_at hl 2 rfl) ?_
    refine lv_iload hx hb dX2_compress64k_83 (lv_at hl 11 rfl) ?_
    refine n_icmp_le (tgt := 91) hx hb dX2_compress64k_85 (by decide) (by omega) (by omega) (fun c__3 => ?_) (fun c__3 => ?_)
    · refine lv_aload_n hx hb dX2_compress64k_91 rfl (lv_at hl 4 rfl) ?_
      refine lv_iload hx hb dX2_compress64k_92 (lv_at hl 3 rfl) ?_
      refine vp_callSi (W.runS (As := [.ref b0, .int (nI fo)]) (rest := []) ⟨hx, hb, hml, hown, hts⟩ (mt_readInt l D cl b0 d1 16384 f fo (by omega) (by omega)) (va_cwS 2 hts (lw_S q218 q219 q10 q220) rfl rfl rfl (by decide +kernel) ⟨Nat.le_of_ble_eq_true rfl, Nat.le_of_ble_eq_true rfl⟩) (pcR_pre (hP.sub [0] rfl) (hK.sub [0] rfl)) rfl rfl hl.1 rfl (lv_room (Nat.le_of_ble_eq_true rfl)) dX2_compress64k_94 ⟨Nat.le_of_ble_eq_true rfl, Nat.le_of_ble_eq_true rfl⟩) (fun r1 _ => ?_)
      refine vp_callSi (W.runS (As := [.int r1]) (rest := []) ⟨hx, hb, hml, hown, hts⟩ (mt_hash64k l D cl r1) (va_cwS 1 hts (lw_S q224 q225 q18 q226) rfl rfl rfl (by decide +kernel) ⟨Nat.le_of_ble_eq_true rfl, Nat.le_of_ble_eq_true rfl⟩) (pcR_pre (hP.sub [] rfl) (hK.sub [] rfl)) rfl rfl hl.1 rfl (lv_room (Nat.le_of_ble_eq_true rfl)) dX2_compress64k_97 ⟨Nat.le_of_ble_eq_true rfl, Nat.le_of_ble_eq_true rfl⟩) (fun r2 hr2 => ?_)
      obtain ⟨hh1, hh1b, rfl⟩ := hr2
      refine lv_istore (lv' := [(17, .int (nI hh1)), (15, .int (nI (nb / 64))), (16, .int (nI (nb + 1))), (13, .int (nI (fo + st))), (9, .int (nI fo)), (0, .ref b0), (1, .int (nI 0)), (3, .ref a0), (4, .int (nI 0)), (5, .int (nI 16464)), (6, .int (nI n)), (7, .int (nI (n - 5))), (8, .int (nI (n - 12))), (10, .int (nI p1)), (11, .int (nI s1)), (12, .ref q)]) hx hb dX2_compress64k_100 hl (by decide) rfl (fun ls hl => ?_)
      refine lv_iload_n hx hb dX2_compress64k_102 rfl (lv_at hl 6 rfl) ?_
      refine lv_aload hx hb dX2_compress64k_103 (lv_at hl 15 rfl) ?_
      refine lv_iload hx hb dX2_compress64k_105 (lv_at hl 0 rfl) ?_
      refine vp_callSi (W.runS (As := [.ref q, .int (nI hh1)]) (rest := [.int (nI 0)]) ⟨hx, hb, hml, hown, hts⟩ (mt_readShort l D cl q d2 8192 t hh1 (by omega) hh1b) (va_cwS 2 hts (lw_S q228 q229 q10 q230) rfl rfl rfl (by decide +kernel) ⟨Nat.le_of_ble_eq_true rfl, Nat.le_of_ble_eq_true rfl⟩) (pcR_pre (hP.sub [2] rfl) (hK.sub [2] rfl)) rfl rfl hl.1 rfl (lv_room (Nat.le_of_ble_eq_true rfl)) dX2_compress64k_107 ⟨Nat.le_of_ble_eq_true rfl, Nat.le_of_ble_eq_true rfl⟩) (fun r3 hr3 => ?_)
      obtain ⟨v, hv, hv2⟩ := ht hh1
      rw [hv2] at hr3
      subst hr3
      refine n_iadd hx hb dX2_compress64k_110 ?_
      refine n_top (b := v) (by omega) ?_
      refine lv_istore (lv' := [(14, .int (nI v)), (17, .int (nI hh1)), (15, .int (nI (nb / 64))), (16, .int (nI (nb + 1))), (13, .int (nI (fo + st))), (9, .int (nI fo)), (0, .ref b0), (1, .int (nI 0)), (3, .ref a0), (4, .int (nI 0)), (5, .int (nI 16464)), (6, .int (nI n)), (7, .int (nI (n - 5))), (8, .int (nI (n - 12))), (10, .int (nI p1)), (11, .int (nI s1)), (12, .ref q)]) hx hb dX2_compress64k_111 hl (by decide) rfl (fun ls hl => ?_)
      refine lv_aload hx hb dX2_compress64k_113 (lv_at hl 16 rfl) ?_
      refine lv_iload hx hb dX2_compress64k_115 (lv_at hl 1 rfl) ?_
      refine lv_iload hx hb dX2_compress64k_117 (lv_at hl 5 rfl) ?_
      refine lv_iload_n hx hb dX2_compress64k_119 rfl (lv_at hl 7 rfl) ?_
      refine n_isub hx hb dX2_compress64k_120 (by omega) ?_
      refine n_top (b := fo) (by omega) ?_
      refine n_callv (va_runS (As := [.ref q, .int (nI hh1), .int (nI fo)]) (rest := []) ⟨hx, hb, hml, hown, hts⟩ (mt_writeShort l D cl q d2 8192 t hh1 fo (by omega) hh1b H.size) (va_cwS 3 hts (lw_S q232 q233 q10 q234) rfl rfl rfl (by decide +kernel) ⟨Nat.le_of_ble_eq_true rfl, Nat.le_of_ble_eq_true rfl⟩) (pcW_pre (hP.sub [2] rfl) (hK.sub [2] rfl) (hD.sub [2] (by decide) rfl)) rfl rfl hl.1 rfl (lv_room (Nat.le_of_ble_eq_true rfl)) dX2_compress64k_121 ⟨Nat.le_of_ble_eq_true rfl, Nat.le_of_ble_eq_true rfl⟩) hP hD hS hA [2] rfl (fun _ => rfl) (fun t2 H locs hw hP hD hS => ?_)
      have hP : va_P D cl [(b0, .inl (d1, 16384, .inl f)), (a0, .inl (d0, 16464, .inl h)), (q, .inl (d2, 8192, .inl t2))] H := hP
      have hD : va_D A [(b0, .inl (d1, 16384, .inl f)), (a0, .inl (d0, 16464, .inl h)), (q, .inl (d2, 8192, .inl t2))] := hD
      have ht2 : zTab t2 (fo + 1) := by rw [hw]; exact (ht.mono (by omega)).put (by omega) (by omega)
      refine lv_aload_n hx hb dX2_compress64k_124 rfl (lv_at hl 6 rfl) ?_
      refine lv_iload hx hb dX2_compress64k_125 (lv_at hl 0 rfl) ?_
      refine lv_iload hx hb dX2_compress64k_127 (lv_at hl 5 rfl) ?_
      refine vp_callSi (W.runS (As := [.ref b0, .int (nI v), .int (nI fo)]) (rest := []) ⟨hx, hb, hml, hown, hts⟩ (mt_intEq l D cl b0 d1 16384 f v fo (by omega) (by omega) (by omega)) (va_cwS 3 hts (lw_S q235 q236 q19 q237) rfl rfl rfl (by decide +kernel) ⟨Nat.le_of_ble_eq_true rfl, Nat.le_of_ble_eq_true rfl⟩) (pcR_pre (hP.sub [0] rfl) (hK.sub [0] rfl)) rfl rfl hl.1 rfl (lv_room (Nat.le_of_ble_eq_true rfl)) dX2_compress64k_129 ⟨Nat.le_of_ble_eq_true rfl, Nat.le_of_ble_eq_true rfl⟩) (fun r4 hr4 => ?_)
      refine lv_if_eq (tgt := 59) hx hb dX2_compress64k_132 (by decide) (fun e__4 => ?_) (fun e__4 => ?_)
      · exact ihS (n - (fo + st)) (by omega) _ _ _ _ _ ⟨fo + st, nb / 64, nb + 1, t2, rfl, by omega, by omega, by omega, by omega, by omega, by omega, ht2.mono (by omega), (lv_sub hl [6, 7, 8, 9, 10, 11, 12, 13, 14, 15, 16, 4, 2, 3] rfl), hP, hD, hS, rfl, rfl⟩
      · have heq : ∀ i : Nat, i < 4 → f (v + i) = f (fo + i) := by
          rcases hr4 with ⟨-, h9⟩ | h9
          · exact h9
          · exact absurd h9 e__4
        refine lv_aload_n hx hb dX2_compress64k_135 rfl (lv_at hl 6 rfl) ?_
        refine lv_iload hx hb dX2_compress64k_136 (lv_at hl 0 rfl) ?_
        refine lv_iload hx hb dX2_compress64k_138 (lv_at hl 5 rfl) ?_
        refine lv_iload_n hx hb dX2_compress64k_140 rfl (lv_at hl 7 rfl) ?_
        refine lv_iload hx hb dX2_compress64k_141 (lv_at hl 15 rfl) ?_
        refine vp_callSi (W.runS (As := [.ref b0, .int (nI v), .int (nI fo), .int (nI 0), .int (nI s1)]) (rest := []) ⟨hx, hb, hml, hown, hts⟩ (mt_commonBack l D cl b0 d1 16384 f v fo s1 (by omega) (by omega) (by omega) (by omega)) (va_cwS 5 hts (lw_S q238 q239 q19 q240) rfl rfl rfl (by decide +kernel) ⟨Nat.le_of_ble_eq_true rfl, Nat.le_of_ble_eq_true rfl⟩) (pcR_pre (hP.sub [0] rfl) (hK.sub [0] rfl)) rfl rfl hl.1 rfl (lv_room (Nat.le_of_ble_eq_true rfl)) dX2_compress64k_143 ⟨Nat.le_of_ble_eq_true rfl, Nat.le_of_ble_eq_true rfl⟩) (fun r5 hr5 => ?_)
        obtain ⟨x, rfl, hx1, hx2, hx3⟩ := hr5
        obtain ⟨so, hso⟩ : ∃ so : Nat, so = fo - x := ⟨_, rfl⟩
        obtain ⟨rf, hrf⟩ : ∃ rf : Nat, rf = v - x := ⟨_, rfl⟩
        obtain ⟨L, hL⟩ : ∃ L : Nat, L = so - s1 := ⟨_, rfl⟩
        rw [← hso, ← hrf] at hx3
        have hall : ∀ i : Nat, i < x + 4 → f (so + i) = f (rf + i) := by
          intro i hi
          rcases Nat.lt_or_ge i x with h9 | h9
          · exact (hx3 i h9).symm
          · have h8 := heq (i - x) (by omega)
            rw [show v + (i - x) = rf + i by omega, show fo + (i - x) = so + i by omega] at h8; exact h8.symm
        refine lv_istore (lv' := [(17, .int (nI x)), (14, .int (nI v)), (15, .int (nI (nb / 64))), (16, .int (nI (nb + 1))), (13, .int (nI (fo + st))), (9, .int (nI fo)), (0, .ref b0), (1, .int (nI 0)), (3, .ref a0), (4, .int (nI 0)), (5, .int (nI 16464)), (6, .int (nI n)), (7, .int (nI (n - 5))), (8, .int (nI (n - 12))), (10, .int (nI p1)), (11, .int (nI s1)), (12, .ref q)]) hx hb dX2_compress64k_146 hl (by decide) rfl (fun ls hl => ?_)
        refine lv_iload hx hb dX2_compress64k_148 (lv_at hl 5 rfl) ?_
        refine lv_iload hx hb dX2_compress64k_150 (lv_at hl 0 rfl) ?_
        refine n_isub hx hb dX2_compress64k_152 (by omega) ?_
        refine n_top (show fo - x = so from hso.symm) ?_
        refine lv_istore (lv' := [(9, .int (nI so)), (17, .int (nI x)), (14, .int (nI v)), (15, .int (nI (nb / 64))), (16, .int (nI (nb + 1))), (13, .int (nI (fo + st))), (0, .ref b0), (1, .int (nI 0)), (3, .ref a0), (4, .int (nI 0)), (5, .int (nI 16464)), (6, .int (nI n)), (7, .int (nI (n - 5))), (8, .int (nI (n - 12))), (10, .int (nI p1)), (11, .int (nI s1)), (12, .ref q)]) hx hb dX2_compress64k_153 hl (by decide) rfl (fun ls hl => ?_)
        refine lv_iload hx hb dX2_compress64k_155 (lv_at hl 2 rfl) ?_
        refine lv_iload hx hb dX2_compress64k_157 (lv_at hl 1 rfl) ?_
        refine n_isub hx hb dX2_compress64k_159 (by omega) ?_
        refine n_top (show v - x = rf from hrf.symm) ?_
        refine lv_istore (lv' := [(14, .int (nI rf)), (9, .int (nI so)), (17, .int (nI x)), (15, .int (nI (nb / 64))), (16, .int (nI (nb + 1))), (13, .int (nI (fo + st))), (0, .ref b0), (1, .int (nI 0)), (3, .ref a0), (4, .int (nI 0)), (5, .int (nI 16464)), (6, .int (nI n)), (7, .int (nI (n - 5))), (8, .int (nI (n - 12))), (10, .int (nI p1)), (11, .int (nI s1)), (12, .ref q)]) hx hb dX2_compress64k_160 hl (by decide) rfl (fun ls hl => ?_)
        refine lv_iload hx hb dX2_compress64k_162 (lv_at hl 1 rfl) ?_
        refine lv_iload hx hb dX2_compress64k_164 (lv_at hl 15 rfl) ?_
        refine n_isub hx hb dX2_compress64k_166 (by omega) ?_
        refine n_top (show so - s1 = L from hL.symm) ?_
        have hen := enc_le L
        refine lv_istore (lv' := [(18, .int (nI L)), (14, .int (nI rf)), (9, .int (nI so)), (17, .int (nI x)), (15, .int (nI (nb / 64))), (16, .int (nI (nb + 1))), (13, .int (nI (fo + st))), (0, .ref b0), (1, .int (nI 0)), (3, .ref a0), (4, .int (nI 0)), (5, .int (nI 16464)), (6, .int (nI n)), (7, .int (nI (n - 5))), (8, .int (nI (n - 12))), (10, .int (nI p1)), (11, .int (nI s1)), (12, .ref q)]) hx hb dX2_compress64k_167 hl (by decide) rfl (fun ls hl => ?_)
        refine lv_iload hx hb dX2_compress64k_169 (lv_at hl 15 rfl) ?_
        refine lv_iinc (v := nI (p1 + 1)) (lv' := [(10, .int (nI (p1 + 1))), (18, .int (nI L)), (14, .int (nI rf)), (9, .int (nI so)), (17, .int (nI x)), (15, .int (nI (nb / 64))), (16, .int (nI (nb + 1))), (13, .int (nI (fo + st))), (0, .ref b0), (1, .int (nI 0)), (3, .ref a0), (4, .int (nI 0)), (5, .int (nI 16464)), (6, .int (nI n)), (7, .int (nI (n - 5))), (8, .int (nI (n - 12))), (11, .int (nI s1)), (12, .ref q)]) hx hb dX2_compress64k_171 hl (k := 15) rfl (n_inc _ 1 (by decide +kernel)) (by decide) rfl (fun ls hl => ?_)
        refine lv_istore (lv' := [(19, .int (nI p1)), (10, .int (nI (p1 + 1))), (18, .int (nI L)), (14, .int (nI rf)), (9, .int (nI so)), (17, .int (nI x)), (15, .int (nI (nb / 64))), (16, .int (nI (nb + 1))), (13, .int (nI (fo + st))), (0, .ref b0), (1, .int (nI 0)), (3, .ref a0), (4, .int (nI 0)), (5, .int (nI 16464)), (6, .int (nI n)), (7, .int (nI (n - 5))), (8, .int (nI (n - 12))), (11, .int (nI s1)), (12, .ref q)]) hx hb dX2_compress64k_174 hl (by decide) rfl (fun ls hl => ?_)
        refine lv_iload hx hb dX2_compress64k_176 (lv_at hl 13 rfl) ?_
        refine lv_iload hx hb dX2_compress64k_178 (lv_at hl 1 rfl) ?_
        refine n_isub hx hb dX2_compress64k_180 (by omega) ?_
        refine lv_iload hx hb dX2_compress64k_181 (lv_at hl 2 rfl) ?_
        refine lv_iconst (v := nI 0) hx hb dX2_compress64k_183 (by decide +kernel) ?_
        refine vp_callSi (W.runS (As := [.int (nI L), .int (nI 0)]) (rest := [.int (nI (16464 - (p1 + 1)))]) ⟨hx, hb, hml, hown, hts⟩ (mt_seqLen l D cl L (by omega)) (va_cwS 2 hts (lw_S q241 q242 q18 q243) rfl rfl rfl (by decide +kernel) ⟨Nat.le_of_ble_eq_true rfl, Nat.le_of_ble_eq_true rfl⟩) (pcR_pre (hP.sub [] rfl) (hK.sub [] rfl)) rfl rfl hl.1 rfl (lv_room (Nat.le_of_ble_eq_true rfl)) dX2_compress64k_184 ⟨Nat.le_of_ble_eq_true rfl, Nat.le_of_ble_eq_true rfl⟩) (fun r6 hr6 => ?_)
        subst hr6
        refine lv_iconst (v := nI 1) hx hb dX2_compress64k_187 (by decide +kernel) ?_
        refine n_iadd hx hb dX2_compress64k_188 ?_
        refine lv_iconst (v := nI 5) hx hb dX2_compress64k_189 (by decide +kernel) ?_
        refine n_iadd hx hb dX2_compress64k_190 ?_
        refine vp_callSi (W.runS (As := [.int (nI (16464 - (p1 + 1))), .int (nI (((1 + enc L + L + 2) + 1) + 5))]) (rest := []) ⟨hx, hb, hml, hown, hts⟩ (mt_notEnough l D cl (16464 - (p1 + 1)) (1 + enc L + L + 2 + 1 + 5) (by omega) (by omega)) (va_cwS 2 hts (lw_S q266 q267 q18 q268) rfl rfl rfl (by decide +kernel) ⟨Nat.le_of_ble_eq_true rfl, Nat.le_of_ble_eq_true rfl⟩) (pcR_pre (hP.sub [] rfl) (hK.sub [] rfl)) rfl rfl hl.1 rfl (lv_room (Nat.le_of_ble_eq_true rfl)) dX2_compress64k_191 ⟨Nat.le_of_ble_eq_true rfl, Nat.le_of_ble_eq_true rfl⟩) (fun r7 hr7 => ?_)
        rw [if_neg (by omega)] at hr7
        subst hr7
        refine lv_if_eq (tgt := 207) hx hb dX2_compress64k_194 (by decide) (fun c__5 => ?_) (fun c__5 => absurd rfl c__5)
        refine lv_iload hx hb dX2_compress64k_207 (lv_at hl 2 rfl) ?_
        refine lv_bipush (v := nI 15) hx hb dX2_compress64k_209 (by decide +kernel) ?_
        refine n_cut 249 (fun H locs ls cells slots => ∃ p2 : Nat, ∃ h1 : Nat → Int32, (p2 = p1 + 1 + enc L) ∧ (∀ j : Nat, j < p1 → h1 j = h j) ∧ (h1 p1 = by8 (m15 L * 16)) ∧ (zExt h1 (p1 + 1) L) ∧ (aB h1) ∧ lv_has ls 22 [(0, .ref b0), (1, .int (nI 0)), (3, .ref a0), (4, .int (nI 0)), (5, .int (nI 16464)), (6, .int (nI n)), (7, .int (nI (n - 5))), (8, .int (nI (n - 12))), (9, .int (nI so)), (10, .int (nI p2)), (11, .int (nI s1)), (12, .ref q), (14, .int (nI rf)), (18, .int (nI L)), (19, .int (nI p1))] ∧ va_P D cl [(b0, .inl (d1, 16384, .inl f)), (a0, .inl (d0, 16464, .inl h1)), (q, .inl (d2, 8192, .inl t2))] H ∧ va_D A [(b0, .inl (d1, 16384, .inl f)), (a0, .inl (d0, 16464, .inl h1)), (q, .inl (d2, 8192, .inl t2))] ∧ va_S A s.heap H locs ∧ cells = 1 ∧ slots = 8192) ?_ (fun K => ?_)
        · intro H locs ls cells slots hI
          obtain ⟨p2, h1, hp2, hk1, hk2, hk3, hk, hl, hP, hD, hS, rfl, rfl⟩ := hI
          refine lv_aload_n hx hb dX2_compress64k_249 rfl (lv_at hl 0 rfl) ?_
          refine lv_iload hx hb dX2_compress64k_250 (lv_at hl 10 rfl) ?_
          refine lv_aload_n hx hb dX2_compress64k_252 rfl (lv_at hl 2 rfl) ?_
          refine lv_iload hx hb dX2_compress64k_253 (lv_at hl 9 rfl) ?_
          refine lv_iload hx hb dX2_compress64k_255 (lv_at hl 13 rfl) ?_
          refine n_callv (vx_runSW (As := [.ref b0, .int (nI s1), .ref a0, .int (nI p2), .int (nI L)]) (rest := []) ⟨hx, hb, hml, hown, hts⟩ (mt_wildCopy l D cl b0 d1 16384 f a0 d0 16464 h1 s1 p2 L (by omega) (by omega) (by omega) (by omega) hf hk H.size) (vx_cwSW 5 hts (lw_SW q278 q279 q19 q280) rfl rfl rfl (by decide +kernel) ⟨Nat.le_of_ble_eq_true rfl, Nat.le_of_ble_eq_true rfl⟩) (pcW_pre (hP.sub [0, 1] rfl) (hK.sub [0, 1] rfl) (hD.sub [0, 1] (by decide) rfl)) rfl rfl hl.1 rfl (lv_room (Nat.le_of_ble_eq_true rfl)) dX2_compress64k_257 ⟨Nat.le_of_ble_eq_true rfl, Nat.le_of_ble_eq_true rfl⟩) hP hD hS hA [0, 1] rfl (fun _ => rfl) (fun h2 H locs hw hP hD hS => ?_)
          have hP : va_P D cl [(b0, .inl (d1, 16384, .inl f)), (a0, .inl (d0, 16464, .inl h2)), (q, .inl (d2, 8192, .inl t2))] H := hP
          have hD : va_D A [(b0, .inl (d1, 16384, .inl f)), (a0, .inl (d0, 16464, .inl h2)), (q, .inl (d2, 8192, .inl t2))] := hD
          obtain ⟨hw1, hw2, hw3⟩ := hw
          have hhalf : zHalf f h2 s1 p1 L := ⟨by rw [hw1 p1 (by omega)]; exact hk2, hk3.keep (fun j _ _ => hw1 j (by omega)), fun i hi => by rw [← hp2]; exact hw2 i hi⟩
          have hz2 : zPre f h2 n k s1 p1 := hz.keep (fun j hj => by rw [hw1 j (by omega)]; exact hk1 j hj)
          refine lv_iload hx hb dX2_compress64k_260 (lv_at hl 9 rfl) ?_
          refine lv_iload hx hb dX2_compress64k_262 (lv_at hl 13 rfl) ?_
          refine n_iadd hx hb dX2_compress64k_264 ?_
          refine lv_istore (lv' := [(10, .int (nI (p2 + L))), (0, .ref b0), (1, .int (nI 0)), (3, .ref a0), (4, .int (nI 0)), (5, .int (nI 16464)), (6, .int (nI n)), (7, .int (nI (n - 5))), (8, .int (nI (n - 12))), (9, .int (nI so)), (11, .int (nI s1)), (12, .ref q), (14, .int (nI rf)), (18, .int (nI L)), (19, .int (nI p1))]) hx hb dX2_compress64k_265 hl (by decide) rfl (fun ls hl => ?_)
          refine n_loopAt 267 (fun n9 H locs ls cells slots => ∃ k : Nat, ∃ s2 : Nat, ∃ p2 : Nat, ∃ L : Nat, ∃ p3 : Nat, ∃ rf : Nat, ∃ so : Nat, ∃ x : Nat, ∃ h : Nat → Int32, ∃ t : Nat → Int32, (n9 = n - so) ∧ (s1 ≤ s2) ∧ (zPre f h n k s2 p2) ∧ (zHalf f h s2 p2 L) ∧ (p3 = p2 + 1 + enc L + L) ∧ (so = s2 + L) ∧ (rf < so) ∧ (so + x + 12 ≤ n) ∧ (∀ i : Nat, i < x + 4 → f (so + i) = f (rf + i)) ∧ (zTab t (so + x + 1)) ∧ (aB h) ∧ lv_has ls 22 [(0, .ref b0), (1, .int (nI 0)), (3, .ref a0), (4, .int (nI 0)), (5, .int (nI 16464)), (6, .int (nI n)), (7, .int (nI (n - 5))), (8, .int (nI (n - 12))), (9, .int (nI so)), (10, .int (nI p3)), (12, .ref q), (14, .int (nI rf)), (19, .int (nI p2))] ∧ va_P D cl [(b0, .inl (d1, 16384, .inl f)), (a0, .inl (d0, 16464, .inl h)), (q, .inl (d2, 8192, .inl t))] H ∧ va_D A [(b0, .inl (d1, 16384, .inl f)), (a0, .inl (d0, 16464, .inl h)), (q, .inl (d2, 8192, .inl t))] ∧ va_S A s.heap H locs ∧ cells = 1 ∧ slots = 8192) (n - so) ⟨k, s1, p1, L, p2 + L, rf, so, x, h2, t2, rfl, by omega, hz2, hhalf, by omega, by omega, by omega, by omega, hall, ht2.mono (by omega), hw3, (lv_sub hl [1, 2, 3, 4, 5, 6, 7, 8, 9, 0, 11, 12, 14] rfl), hP, hD, hS, rfl, rfl⟩ ?_
          intro n2 ihI H locs ls cells slots hI
          obtain ⟨k, s2, p2, L, p3, rf, so, x, h, t, hn2, hs2, hz, hhalf, hp3, hso, hrf, hsx, hall, ht, hh, hl, hP, hD, hS, rfl, rfl⟩ := hI
          have hbd := hz.bound
          have hen := enc_le L
          refine lv_aload_n hx hb dX2_compress64k_267 rfl (lv_at hl 2 rfl) ?_
          refine lv_iload hx hb dX2_compress64k_268 (lv_at hl 9 rfl) ?_
          refine lv_iload hx hb dX2_compress64k_270 (lv_at hl 8 rfl) ?_
          refine lv_iload hx hb dX2_compress64k_272 (lv_at hl 11 rfl) ?_
          refine n_isub hx hb dX2_compress64k_274 (by omega) ?_
          refine lv_i2s hx hb dX2_compress64k_275 rfl ?_
          refine n_topI (y := nI (so - rf)) (off_short (by omega)) ?_
          refine n_callv (va_runS (As := [.ref a0, .int (nI p3), .int (nI (so - rf))]) (rest := []) ⟨hx, hb, hml, hown, hts⟩ (mt_writeShortLE l D cl a0 d0 16464 h p3 (nI (so - rf)) (by8 ((so - rf) % 256)) (by8 ((so - rf) / 256)) (by omega) (by omega) (off_lo _) (off_hi (by omega)) H.size) (va_cwS 3 hts (lw_S q293 q294 q10 q295) rfl rfl rfl (by decide +kernel) ⟨Nat.le_of_ble_eq_true rfl, Nat.le_of_ble_eq_true rfl⟩) (pcW_pre (hP.sub [1] rfl) (hK.sub [1] rfl) (hD.sub [1] (by decide) rfl)) rfl rfl hl.1 rfl (lv_room (Nat.le_of_ble_eq_true rfl)) dX2_compress64k_276 ⟨Nat.le_of_ble_eq_true rfl, Nat.le_of_ble_eq_true rfl⟩) hP hD hS hA [1] rfl (fun _ => rfl) (fun h1 H locs hw hP hD hS => ?_)
          have hP : va_P D cl [(b0, .inl (d1, 16384, .inl f)), (a0, .inl (d0, 16464, .inl h1)), (q, .inl (d2, 8192, .inl t))] H := hP
          have hD : va_D A [(b0, .inl (d1, 16384, .inl f)), (a0, .inl (d0, 16464, .inl h1)), (q, .inl (d2, 8192, .inl t))] := hD
          have hh1 : aB h1 := by rw [hw]; exact aB_upd (aB_upd hh (by8_bB _)) (by8_bB _)
          have hk1 : ∀ j : Nat, j < p3 → h1 j = h j := fun j hj => by rw [hw, pk_un (by omega), pk_un (by omega)]
          have hk2 : h1 p3 = by8 ((so - rf) % 256) := by rw [hw, pk_un (by omega), pk_us]
          have hk3 : h1 (p3 + 1) = by8 ((so - rf) / 256) := by rw [hw, pk_us]
          refine lv_iinc (v := nI (p3 + 2)) (lv' := [(10, .int (nI (p3 + 2))), (0, .ref b0), (1, .int (nI 0)), (3, .ref a0), (4, .int (nI 0)), (5, .int (nI 16464)), (6, .int (nI n)), (7, .int (nI (n - 5))), (8, .int (nI (n - 12))), (9, .int (nI so)), (12, .ref q), (14, .int (nI rf)), (19, .int (nI p2))]) hx hb dX2_compress64k_279 hl (k := 9) rfl (n_inc _ 2 (by decide +kernel)) (by decide) rfl (fun ls hl => ?_)
          refine lv_iinc (v := nI (so + 4)) (lv' := [(9, .int (nI (so + 4))), (10, .int (nI (p3 + 2))), (0, .ref b0), (1, .int (nI 0)), (3, .ref a0), (4, .int (nI 0)), (5, .int (nI 16464)), (6, .int (nI n)), (7, .int (nI (n - 5))), (8, .int (nI (n - 12))), (12, .ref q), (14, .int (nI rf)), (19, .int (nI p2))]) hx hb dX2_compress64k_282 hl (k := 9) rfl (n_inc _ 4 (by decide +kernel)) (by decide) rfl (fun ls hl => ?_)
          refine lv_iinc (v := nI (rf + 4)) (lv' := [(14, .int (nI (rf + 4))), (9, .int (nI (so + 4))), (10, .int (nI (p3 + 2))), (0, .ref b0), (1, .int (nI 0)), (3, .ref a0), (4, .int (nI 0)), (5, .int (nI 16464)), (6, .int (nI n)), (7, .int (nI (n - 5))), (8, .int (nI (n - 12))), (12, .ref q), (19, .int (nI p2))]) hx hb dX2_compress64k_285 hl (k := 11) rfl (n_inc _ 4 (by decide +kernel)) (by decide) rfl (fun ls hl => ?_)
          refine lv_aload_n hx hb dX2_compress64k_288 rfl (lv_at hl 3 rfl) ?_
          refine lv_iload hx hb dX2_compress64k_289 (lv_at hl 0 rfl) ?_
          refine lv_iload hx hb dX2_compress64k_291 (lv_at hl 1 rfl) ?_
          refine lv_iload hx hb dX2_compress64k_293 (lv_at hl 9 rfl) ?_
          refine vp_callSi (W.runS (As := [.ref b0, .int (nI (rf + 4)), .int (nI (so + 4)), .int (nI (n - 5))]) (rest := []) ⟨hx, hb, hml, hown, hts⟩ (mt_commonBytes l D cl b0 d1 16384 f (rf + 4) (so + 4) (n - 5) (by omega) (by omega) (by omega) (by omega)) (va_cwS 4 hts (lw_S q296 q297 q19 q298) rfl rfl rfl (by decide +kernel) ⟨Nat.le_of_ble_eq_true rfl, Nat.le_of_ble_eq_true rfl⟩) (pcR_pre (hP.sub [0] rfl) (hK.sub [0] rfl)) rfl rfl hl.1 rfl (lv_room (Nat.le_of_ble_eq_true rfl)) dX2_compress64k_295 ⟨Nat.le_of_ble_eq_true rfl, Nat.le_of_ble_eq_true rfl⟩) (fun r1 hr1 => ?_)
          obtain ⟨M, rfl, hM1, hM2, hM3⟩ := hr1
          have hMx : so + x + 4 ≤ so + 4 + M := by
            rcases Nat.lt_or_ge M x with h9 | h9
            · have h8 := hall (M + 4) (by omega)
              exact absurd (by rw [show rf + 4 + M = rf + (M + 4) by omega, show so + 4 + M = so + (M + 4) by omega]; exact h8.symm) (hM3 (by omega))
            · omega
          have hmt : ∀ i : Nat, i < M + 4 → f (s2 + L + i) = f (s2 + L + i - (so - rf)) := by
            intro i hi
            rw [← hso, show so + i - (so - rf) = rf + i by omega]
            rcases Nat.lt_or_ge i 4 with h9 | h9
            · exact hall i (by omega)
            · have h8 := hM2 (i - 4) (by omega)
              rw [show rf + 4 + (i - 4) = rf + i by omega, show so + 4 + (i - 4) = so + i by omega] at h8; exact h8.symm
          have henM := enc_le M
          have hm1 := m15_le L
          have hm2 := m15_le M
          have htok : h1 p2 = by8 (m15 L * 16) := by rw [hk1 p2 (by omega)]; exact hhalf.1
          refine lv_istore (lv' := [(20, .int (nI M)), (14, .int (nI (rf + 4))), (9, .int (nI (so + 4))), (10, .int (nI (p3 + 2))), (0, .ref b0), (1, .int (nI 0)), (3, .ref a0), (4, .int (nI 0)), (5, .int (nI 16464)), (6, .int (nI n)), (7, .int (nI (n - 5))), (8, .int (nI (n - 12))), (12, .ref q), (19, .int (nI p2))]) hx hb dX2_compress64k_298 hl (by decide) rfl (fun ls hl => ?_)
          refine lv_iload hx hb dX2_compress64k_300 (lv_at hl 8 rfl) ?_
          refine lv_iload hx hb dX2_compress64k_302 (lv_at hl 3 rfl) ?_
          refine n_isub hx hb dX2_compress64k_304 (by omega) ?_
          refine lv_bipush (v := nI 6) hx hb dX2_compress64k_305 (by decide +kernel) ?_
          refine lv_iload hx hb dX2_compress64k_307 (lv_at hl 0 rfl) ?_
          refine vp_callSi (W.runS (As := [.int (nI M)]) (rest := [.int (nI 6), .int (nI (16464 - (p3 + 2)))]) ⟨hx, hb, hml, hown, hts⟩ (mt_encLen l D cl M (by omega)) (va_cwS 1 hts (lw_S q299 q245 q18 q246) rfl rfl rfl (by decide +kernel) ⟨Nat.le_of_ble_eq_true rfl, Nat.le_of_ble_eq_true rfl⟩) (pcR_pre (hP.sub [] rfl) (hK.sub [] rfl)) rfl rfl hl.1 rfl (lv_room (Nat.le_of_ble_eq_true rfl)) dX2_compress64k_309 ⟨Nat.le_of_ble_eq_true rfl, Nat.le_of_ble_eq_true rfl⟩) (fun r2 hr2 => ?_)
          subst hr2
          refine n_iadd hx hb dX2_compress64k_312 ?_
          refine vp_callSi (W.runS (As := [.int (nI (16464 - (p3 + 2))), .int (nI (6 + (enc M)))]) (rest := []) ⟨hx, hb, hml, hown, hts⟩ (mt_notEnough l D cl (16464 - (p3 + 2)) (6 + enc M) (by omega) (by omega)) (va_cwS 2 hts (lw_S q266 q267 q18 q268) rfl rfl rfl (by decide +kernel) ⟨Nat.le_of_ble_eq_true rfl, Nat.le_of_ble_eq_true rfl⟩) (pcR_pre (hP.sub [] rfl) (hK.sub [] rfl)) rfl rfl hl.1 rfl (lv_room (Nat.le_of_ble_eq_true rfl)) dX2_compress64k_313 ⟨Nat.le_of_ble_eq_true rfl, Nat.le_of_ble_eq_true rfl⟩) (fun r3 hr3 => ?_)
          rw [if_neg (by omega)] at hr3
          subst hr3
          refine lv_if_eq (tgt := 329) hx hb dX2_compress64k_316 (by decide) (fun c__6 => ?_) (fun c__6 => absurd rfl c__6)
          refine lv_iload hx hb dX2_compress64k_329 (lv_at hl 2 rfl) ?_
          refine lv_iload hx hb dX2_compress64k_331 (lv_at hl 0 rfl) ?_
          refine n_iadd hx hb dX2_compress64k_333 ?_
          refine lv_istore (lv' := [(9, .int (nI ((so + 4) + M))), (20, .int (nI M)), (14, .int (nI (rf + 4))), (10, .int (nI (p3 + 2))), (0, .ref b0), (1, .int (nI 0)), (3, .ref a0), (4, .int (nI 0)), (5, .int (nI 16464)), (6, .int (nI n)), (7, .int (nI (n - 5))), (8, .int (nI (n - 12))), (12, .ref q), (19, .int (nI p2))]) hx hb dX2_compress64k_334 hl (by decide) rfl (fun ls hl => ?_)
          refine lv_iload hx hb dX2_compress64k_336 (lv_at hl 1 rfl) ?_
          refine lv_bipush (v := nI 15) hx hb dX2_compress64k_338 (by decide +kernel) ?_
          refine n_cut 389 (fun H locs ls cells slots => ∃ s4 : Nat, ∃ p4 : Nat, ∃ h3 : Nat → Int32, (s4 = so + 4 + M) ∧ (zPre f h3 n (k + 1) s4 p4) ∧ (aB h3) ∧ lv_has ls 22 [(0, .ref b0), (1, .int (nI 0)), (3, .ref a0), (4, .int (nI 0)), (5, .int (nI 16464)), (6, .int (nI n)), (7, .int (nI (n - 5))), (8, .int (nI (n - 12))), (9, .int (nI s4)), (10, .int (nI p4)), (12, .ref q)] ∧ va_P D cl [(b0, .inl (d1, 16384, .inl f)), (a0, .inl (d0, 16464, .inl h3)), (q, .inl (d2, 8192, .inl t))] H ∧ va_D A [(b0, .inl (d1, 16384, .inl f)), (a0, .inl (d0, 16464, .inl h3)), (q, .inl (d2, 8192, .inl t))] ∧ va_S A s.heap H locs ∧ cells = 1 ∧ slots = 8192) ?_ (fun K2 => ?_)
          · intro H locs ls cells slots hI
            obtain ⟨s4, p4, h3, hs4, hz4, hh3, hl, hP, hD, hS, rfl, rfl⟩ := hI
            have hbd4 := hz4.bound
            refine lv_iload hx hb dX2_compress64k_389 (lv_at hl 8 rfl) ?_
            refine lv_iload hx hb dX2_compress64k_391 (lv_at hl 7 rfl) ?_
            refine n_icmp_le (tgt := 403) hx hb dX2_compress64k_393 (by decide) (by omega) (by omega) (fun c__7 => ?_) (fun c__7 => ?_)
            · refine lv_aload hx hb dX2_compress64k_403 (lv_at hl 10 rfl) ?_
              refine lv_aload_n hx hb dX2_compress64k_405 rfl (lv_at hl 0 rfl) ?_
              refine lv_iload hx hb dX2_compress64k_406 (lv_at hl 8 rfl) ?_
              refine lv_iconst (v := nI 2) hx hb dX2_compress64k_408 (by decide +kernel) ?_
              refine n_isub hx hb dX2_compress64k_409 (by omega) ?_
              refine vp_callSi (W.runS (As := [.ref b0, .int (nI (s4 - 2))]) (rest := [.ref q]) ⟨hx, hb, hml, hown, hts⟩ (mt_readInt l D cl b0 d1 16384 f (s4 - 2) (by omega) (by omega)) (va_cwS 2 hts (lw_S q218 q219 q10 q220) rfl rfl rfl (by decide +kernel) ⟨Nat.le_of_ble_eq_true rfl, Nat.le_of_ble_eq_true rfl⟩) (pcR_pre (hP.sub [0] rfl) (hK.sub [0] rfl)) rfl rfl hl.1 rfl (lv_room (Nat.le_of_ble_eq_true rfl)) dX2_compress64k_410 ⟨Nat.le_of_ble_eq_true rfl, Nat.le_of_ble_eq_true rfl⟩) (fun r5 _ => ?_)
              refine vp_callSi (W.runS (As := [.int r5]) (rest := [.ref q]) ⟨hx, hb, hml, hown, hts⟩ (mt_hash64k l D cl r5) (va_cwS 1 hts (lw_S q224 q225 q18 q226) rfl rfl rfl (by decide +kernel) ⟨Nat.le_of_ble_eq_true rfl, Nat.le_of_ble_eq_true rfl⟩) (pcR_pre (hP.sub [] rfl) (hK.sub [] rfl)) rfl rfl hl.1 rfl (lv_room (Nat.le_of_ble_eq_true rfl)) dX2_compress64k_413 ⟨Nat.le_of_ble_eq_true rfl, Nat.le_of_ble_eq_true rfl⟩) (fun r6 hr6 => ?_)
              obtain ⟨k6, hk6, rfl⟩ := hr6
              refine lv_iload hx hb dX2_compress64k_416 (lv_at hl 8 rfl) ?_
              refine lv_iconst (v := nI 2) hx hb dX2_compress64k_418 (by decide +kernel) ?_
              refine n_isub hx hb dX2_compress64k_419 (by omega) ?_
              refine lv_iload_n hx hb dX2_compress64k_420 rfl (lv_at hl 1 rfl) ?_
              refine n_isub hx hb dX2_compress64k_421 (by omega) ?_
              refine n_top (b := s4 - 2) (by omega) ?_
              refine n_callv (va_runS (As := [.ref q, .int (nI k6), .int (nI (s4 - 2))]) (rest := []) ⟨hx, hb, hml, hown, hts⟩ (mt_writeShort l D cl q d2 8192 t k6 (s4 - 2) (by omega) hk6 H.size) (va_cwS 3 hts (lw_S q232 q233 q10 q234) rfl rfl rfl (by decide +kernel) ⟨Nat.le_of_ble_eq_true rfl, Nat.le_of_ble_eq_true rfl⟩) (pcW_pre (hP.sub [2] rfl) (hK.sub [2] rfl) (hD.sub [2] (by decide) rfl)) rfl rfl hl.1 rfl (lv_room (Nat.le_of_ble_eq_true rfl)) dX2_compress64k_422 ⟨Nat.le_of_ble_eq_true rfl, Nat.le_of_ble_eq_true rfl⟩) hP hD hS hA [2] rfl (fun _ => rfl) (fun t3 H locs hw8 hP hD hS => ?_)
              have hP : va_P D cl [(b0, .inl (d1, 16384, .inl f)), (a0, .inl (d0, 16464, .inl h3)), (q, .inl (d2, 8192, .inl t3))] H := hP
              have hD : va_D A [(b0, .inl (d1, 16384, .inl f)), (a0, .inl (d0, 16464, .inl h3)), (q, .inl (d2, 8192, .inl t3))] := hD
              have ht3 : zTab t3 s4 := by rw [hw8]; exact (ht.mono (by omega)).put (by omega) (by omega)
              refine lv_aload_n hx hb dX2_compress64k_425 rfl (lv_at hl 0 rfl) ?_
              refine lv_iload hx hb dX2_compress64k_426 (lv_at hl 8 rfl) ?_
              refine vp_callSi (W.runS (As := [.ref b0, .int (nI s4)]) (rest := []) ⟨hx, hb, hml, hown, hts⟩ (mt_readInt l D cl b0 d1 16384 f s4 (by omega) (by omega)) (va_cwS 2 hts (lw_S q218 q219 q10 q220) rfl rfl rfl (by decide +kernel) ⟨Nat.le_of_ble_eq_true rfl, Nat.le_of_ble_eq_true rfl⟩) (pcR_pre (hP.sub [0] rfl) (hK.sub [0] rfl)) rfl rfl hl.1 rfl (lv_room (Nat.le_of_ble_eq_true rfl)) dX2_compress64k_428 ⟨Nat.le_of_ble_eq_true rfl, Nat.le_of_ble_eq_true rfl⟩) (fun r7 _ => ?_)
              refine vp_callSi (W.runS (As := [.int r7]) (rest := []) ⟨hx, hb, hml, hown, hts⟩ (mt_hash64k l D cl r7) (va_cwS 1 hts (lw_S q224 q225 q18 q226) rfl rfl rfl (by decide +kernel) ⟨Nat.le_of_ble_eq_true rfl, Nat.le_of_ble_eq_true rfl⟩) (pcR_pre (hP.sub [] rfl) (hK.sub [] rfl)) rfl rfl hl.1 rfl (lv_room (Nat.le_of_ble_eq_true rfl)) dX2_compress64k_431 ⟨Nat.le_of_ble_eq_true rfl, Nat.le_of_ble_eq_true rfl⟩) (fun r8 hr8 => ?_)
              obtain ⟨k8, hk8, rfl⟩ := hr8
              refine lv_istore (lv' := [(21, .int (nI k8)), (0, .ref b0), (1, .int (nI 0)), (3, .ref a0), (4, .int (nI 0)), (5, .int (nI 16464)), (6, .int (nI n)), (7, .int (nI (n - 5))), (8, .int (nI (n - 12))), (9, .int (nI s4)), (10, .int (nI p4)), (12, .ref q)]) hx hb dX2_compress64k_434 hl (by decide) rfl (fun ls hl => ?_)
              refine lv_iload_n hx hb dX2_compress64k_436 rfl (lv_at hl 2 rfl) ?_
              refine lv_aload hx hb dX2_compress64k_437 (lv_at hl 11 rfl) ?_
              refine lv_iload hx hb dX2_compress64k_439 (lv_at hl 0 rfl) ?_
              refine vp_callSi (W.runS (As := [.ref q, .int (nI k8)]) (rest := [.int (nI 0)]) ⟨hx, hb, hml, hown, hts⟩ (mt_readShort l D cl q d2 8192 t3 k8 (by omega) hk8) (va_cwS 2 hts (lw_S q228 q229 q10 q230) rfl rfl rfl (by decide +kernel) ⟨Nat.le_of_ble_eq_true rfl, Nat.le_of_ble_eq_true rfl⟩) (pcR_pre (hP.sub [2] rfl) (hK.sub [2] rfl)) rfl rfl hl.1 rfl (lv_room (Nat.le_of_ble_eq_true rfl)) dX2_compress64k_441 ⟨Nat.le_of_ble_eq_true rfl, Nat.le_of_ble_eq_true rfl⟩) (fun r9 hr9 => ?_)
              obtain ⟨v, hv, hv2⟩ := ht3 k8
              rw [hv2] at hr9
              subst hr9
              refine n_iadd hx hb dX2_compress64k_444 ?_
              refine n_top (b := v) (by omega) ?_
              refine lv_istore (lv' := [(14, .int (nI v)), (21, .int (nI k8)), (0, .ref b0), (1, .int (nI 0)), (3, .ref a0), (4, .int (nI 0)), (5, .int (nI 16464)), (6, .int (nI n)), (7, .int (nI (n - 5))), (8, .int (nI (n - 12))), (9, .int (nI s4)), (10, .int (nI p4)), (12, .ref q)]) hx hb dX2_compress64k_445 hl (by decide) rfl (fun ls hl => ?_)
              refine lv_aload hx hb dX2_compress64k_447 (lv_at hl 12 rfl) ?_
              refine lv_iload hx hb dX2_compress64k_449 (lv_at hl 1 rfl) ?_
              refine lv_iload hx hb dX2_compress64k_451 (lv_at hl 10 rfl) ?_
              refine lv_iload_n hx hb dX2_compress64k_453 rfl (lv_at hl 3 rfl) ?_
              refine n_isub hx hb dX2_compress64k_454 (by omega) ?_
              refine n_top (b := s4) (by omega) ?_
              refine n_callv (va_runS (As := [.ref q, .int (nI k8), .int (nI s4)]) (rest := []) ⟨hx, hb, hml, hown, hts⟩ (mt_writeShort l D cl q d2 8192 t3 k8 s4 (by omega) hk8 H.size) (va_cwS 3 hts (lw_S q232 q233 q10 q234) rfl rfl rfl (by decide +kernel) ⟨Nat.le_of_ble_eq_true rfl, Nat.le_of_ble_eq_true rfl⟩) (pcW_pre (hP.sub [2] rfl) (hK.sub [2] rfl) (hD.sub [2] (by decide) rfl)) rfl rfl hl.1 rfl (lv_room (Nat.le_of_ble_eq_true rfl)) dX2_compress64k_455 ⟨Nat.le_of_ble_eq_true rfl, Nat.le_of_ble_eq_true rfl⟩) hP hD hS hA [2] rfl (fun _ => rfl) (fun t4 H locs hw10 hP hD hS => ?_)
              have hP : va_P D cl [(b0, .inl (d1, 16384, .inl f)), (a0, .inl (d0, 16464, .inl h3)), (q, .inl (d2, 8192, .inl t4))] H := hP
              have hD : va_D A [(b0, .inl (d1, 16384, .inl f)), (a0, .inl (d0, 16464, .inl h3)), (q, .inl (d2, 8192, .inl t4))] := hD
              have ht4 : zTab t4 (s4 + 1) := by rw [hw10]; exact (ht3.mono (by omega)).put (by omega) (by omega)
              refine lv_aload_n hx hb dX2_compress64k_458 rfl (lv_at hl 2 rfl) ?_
              refine lv_iload hx hb dX2_compress64k_459 (lv_at hl 10 rfl) ?_
              refine lv_iload hx hb dX2_compress64k_461 (lv_at hl 0 rfl) ?_
              refine vp_callSi (W.runS (As := [.ref b0, .int (nI s4), .int (nI v)]) (rest := []) ⟨hx, hb, hml, hown, hts⟩ (mt_intEq l D cl b0 d1 16384 f s4 v (by omega) (by omega) (by omega)) (va_cwS 3 hts (lw_S q235 q236 q19 q237) rfl rfl rfl (by decide +kernel) ⟨Nat.le_of_ble_eq_true rfl, Nat.le_of_ble_eq_true rfl⟩) (pcR_pre (hP.sub [0] rfl) (hK.sub [0] rfl)) rfl rfl hl.1 rfl (lv_room (Nat.le_of_ble_eq_true rfl)) dX2_compress64k_463 ⟨Nat.le_of_ble_eq_true rfl, Nat.le_of_ble_eq_true rfl⟩) (fun r10 hr10 => ?_)
              refine lv_if_ne (tgt := 472) hx hb dX2_compress64k_466 (by decide) (fun e__8 => ?_) (fun e__8 => ?_)
              · have heq : ∀ i : Nat, i < 4 → f (s4 + i) = f (v + i) := by
                  rcases hr10 with ⟨-, h9⟩ | h9
                  · exact h9
                  · exact absurd h9 e__8
                refine lv_iload hx hb dX2_compress64k_472 (lv_at hl 11 rfl) ?_
                refine lv_iinc (v := nI (p4 + 1)) (lv' := [(10, .int (nI (p4 + 1))), (14, .int (nI v)), (21, .int (nI k8)), (0, .ref b0), (1, .int (nI 0)), (3, .ref a0), (4, .int (nI 0)), (5, .int (nI 16464)), (6, .int (nI n)), (7, .int (nI (n - 5))), (8, .int (nI (n - 12))), (9, .int (nI s4)), (12, .ref q)]) hx hb dX2_compress64k_474 hl (k := 11) rfl (n_inc _ 1 (by decide +kernel)) (by decide) rfl (fun ls hl => ?_)
                refine lv_istore (lv' := [(19, .int (nI p4)), (10, .int (nI (p4 + 1))), (14, .int (nI v)), (21, .int (nI k8)), (0, .ref b0), (1, .int (nI 0)), (3, .ref a0), (4, .int (nI 0)), (5, .int (nI 16464)), (6, .int (nI n)), (7, .int (nI (n - 5))), (8, .int (nI (n - 12))), (9, .int (nI s4)), (12, .ref q)]) hx hb dX2_compress64k_477 hl (by decide) rfl (fun ls hl => ?_)
                refine lv_aload_n hx hb dX2_compress64k_479 rfl (lv_at hl 6 rfl) ?_
                refine lv_iload hx hb dX2_compress64k_480 (lv_at hl 0 rfl) ?_
                refine lv_iconst (v := nI 0) hx hb dX2_compress64k_482 (by decide +kernel) ?_
                refine n_callv (va_runS (As := [.ref a0, .int (nI p4), .int (nI 0)]) (rest := []) ⟨hx, hb, hml, hown, hts⟩ (mt_writeByte l D cl a0 d0 16464 h3 p4 (nI 0) (by8 0) (by omega) (by omega) rfl H.size) (va_cwS 3 hts (lw_S q272 q273 q10 q274) rfl rfl rfl (by decide +kernel) ⟨Nat.le_of_ble_eq_true rfl, Nat.le_of_ble_eq_true rfl⟩) (pcW_pre (hP.sub [1] rfl) (hK.sub [1] rfl) (hD.sub [1] (by decide) rfl)) rfl rfl hl.1 rfl (lv_room (Nat.le_of_ble_eq_true rfl)) dX2_compress64k_483 ⟨Nat.le_of_ble_eq_true rfl, Nat.le_of_ble_eq_true rfl⟩) hP hD hS hA [1] rfl (fun _ => rfl) (fun h5 H locs hw11 hP hD hS => ?_)
                have hP : va_P D cl [(b0, .inl (d1, 16384, .inl f)), (a0, .inl (d0, 16464, .inl h5)), (q, .inl (d2, 8192, .inl t4))] H := hP
                have hD : va_D A [(b0, .inl (d1, 16384, .inl f)), (a0, .inl (d0, 16464, .inl h5)), (q, .inl (d2, 8192, .inl t4))] := hD
                refine lv_goto (tgt := 267) hx hb dX2_compress64k_486 (by decide) ?_
                exact ihI (n - s4) (by omega) _ _ _ _ _ ⟨k + 1, s4, p4, 0, p4 + 1, v, s4, 0, h5, t4, rfl, by omega, hz4.keep (fun j hj => by rw [hw11]; exact pk_un (by omega)), ⟨by rw [hw11, pk_us, m15_lo (by omega)], fun h9 => absurd h9 (by omega), fun i hi => absurd hi (by omega)⟩, by rw [enc_lo (v := 0) (by omega)], by omega, hv, by omega, fun i hi => heq i (by omega), ht4, by rw [hw11]; exact aB_upd hh3 (by8_bB _), (lv_sub hl [4, 5, 6, 7, 8, 9, 10, 11, 12, 1, 13, 2, 0] rfl), hP, hD, hS, rfl, rfl⟩
              · refine lv_goto (tgt := 489) hx hb dX2_compress64k_469 (by decide) ?_
                refine lv_iload hx hb dX2_compress64k_489 (lv_at hl 10 rfl) ?_
                refine lv_iinc (v := nI (s4 + 1)) (lv' := [(9, .int (nI (s4 + 1))), (14, .int (nI v)), (21, .int (nI k8)), (0, .ref b0), (1, .int (nI 0)), (3, .ref a0), (4, .int (nI 0)), (5, .int (nI 16464)), (6, .int (nI n)), (7, .int (nI (n - 5))), (8, .int (nI (n - 12))), (10, .int (nI p4)), (12, .ref q)]) hx hb dX2_compress64k_491 hl (k := 10) rfl (n_inc _ 1 (by decide +kernel)) (by decide) rfl (fun ls hl => ?_)
                refine lv_istore (lv' := [(11, .int (nI s4)), (9, .int (nI (s4 + 1))), (14, .int (nI v)), (21, .int (nI k8)), (0, .ref b0), (1, .int (nI 0)), (3, .ref a0), (4, .int (nI 0)), (5, .int (nI 16464)), (6, .int (nI n)), (7, .int (nI (n - 5))), (8, .int (nI (n - 12))), (10, .int (nI p4)), (12, .ref q)]) hx hb dX2_compress64k_494 hl (by decide) rfl (fun ls hl => ?_)
                refine lv_goto (tgt := 45) hx hb dX2_compress64k_496 (by decide) ?_
                exact ihM (n - s4) (by omega) _ _ _ _ _ ⟨k + 1, s4, p4, h3, t4, rfl, hz4, by omega, ht4, hh3, (lv_sub hl [4, 5, 6, 7, 8, 9, 10, 11, 1, 12, 0, 13] rfl), hP, hD, hS, rfl, rfl⟩
            · refine lv_iload hx hb dX2_compress64k_396 (lv_at hl 8 rfl) ?_
              refine lv_istore (lv' := [(11, .int (nI s4)), (0, .ref b0), (1, .int (nI 0)), (3, .ref a0), (4, .int (nI 0)), (5, .int (nI 16464)), (6, .int (nI n)), (7, .int (nI (n - 5))), (8, .int (nI (n - 12))), (9, .int (nI s4)), (10, .int (nI p4)), (12, .ref q)]) hx hb dX2_compress64k_398 hl (by decide) rfl (fun ls hl => ?_)
              refine lv_goto (tgt := 499) hx hb dX2_compress64k_400 (by decide) ?_
              exact E _ _ _ _ _ ⟨k + 1, s4, p4, h3, hz4, by omega, hh3, (lv_sub hl [1, 3, 4, 5, 6, 10, 0] rfl), hP.sub [0, 1] rfl, hD.sub [0, 1] (by decide) rfl, hS, rfl, rfl⟩
          · refine n_icmp_lt (tgt := 374) hx hb dX2_compress64k_340 (by decide) (by omega) (by omega) (fun c__9 => ?_) (fun c__9 => ?_)
            · refine lv_aload_n hx hb dX2_compress64k_374 rfl (lv_at hl 6 rfl) ?_
              refine lv_iload hx hb dX2_compress64k_375 (lv_at hl 13 rfl) ?_
              refine lv_aload_n hx hb dX2_compress64k_377 rfl (lv_at hl 6 rfl) ?_
              refine lv_iload hx hb dX2_compress64k_378 (lv_at hl 13 rfl) ?_
              refine vp_callSi (W.runS (As := [.ref a0, .int (nI p2)]) (rest := [.int (nI p2), .ref a0]) ⟨hx, hb, hml, hown, hts⟩ (mt_readByte l D cl a0 d0 16464 h1 p2 (by omega) (by omega) (hh1 _)) (va_cwS 2 hts (lw_S q300 q301 q10 q302) rfl rfl rfl (by decide +kernel) ⟨Nat.le_of_ble_eq_true rfl, Nat.le_of_ble_eq_true rfl⟩) (pcR_pre (hP.sub [1] rfl) (hK.sub [1] rfl)) rfl rfl hl.1 rfl (lv_room (Nat.le_of_ble_eq_true rfl)) dX2_compress64k_380 ⟨Nat.le_of_ble_eq_true rfl, Nat.le_of_ble_eq_true rfl⟩) (fun r4 hr4 => ?_)
              rw [htok] at hr4
              subst hr4
              refine lv_iload hx hb dX2_compress64k_383 (lv_at hl 1 rfl) ?_
              refine lv_ior hx hb dX2_compress64k_385 ?_
              have e1 := enc_lo c__9
              have e3 := m15_lo c__9
              refine n_callv (va_runS (As := [.ref a0, .int (nI p2), .int ((by8 (m15 L * 16)) ||| (nI M))]) (rest := []) ⟨hx, hb, hml, hown, hts⟩ (mt_writeByte l D cl a0 d0 16464 h1 p2 ((by8 (m15 L * 16)) ||| (nI M)) (by8 (m15 L * 16 + M)) (by omega) (by omega) (by8_or _ (by omega) _ (by omega)) H.size) (va_cwS 3 hts (lw_S q272 q273 q10 q274) rfl rfl rfl (by decide +kernel) ⟨Nat.le_of_ble_eq_true rfl, Nat.le_of_ble_eq_true rfl⟩) (pcW_pre (hP.sub [1] rfl) (hK.sub [1] rfl) (hD.sub [1] (by decide) rfl)) rfl rfl hl.1 rfl (lv_room (Nat.le_of_ble_eq_true rfl)) dX2_compress64k_386 ⟨Nat.le_of_ble_eq_true rfl, Nat.le_of_ble_eq_true rfl⟩) hP hD hS hA [1] rfl (fun _ => rfl) (fun h3 H locs hw3 hP hD hS => ?_)
              have hP : va_P D cl [(b0, .inl (d1, 16384, .inl f)), (a0, .inl (d0, 16464, .inl h3)), (q, .inl (d2, 8192, .inl t))] H := hP
              have hD : va_D A [(b0, .inl (d1, 16384, .inl f)), (a0, .inl (d0, 16464, .inl h3)), (q, .inl (d2, 8192, .inl t))] := hD
              have hk4 : ∀ j : Nat, j ≠ p2 → h3 j = h1 j := fun j hj => by rw [hw3]; exact pk_un hj
              have step9 : zStep f h3 n s2 p2 L (so - rf) M (so + 4 + M) (p3 + 2) := by
                have h9 := zStep.mk (d' := h3) (n := n) (off := so - rf) (M := M) hhalf (by rw [hw3, pk_us, e3]) (fun j a b => by rw [hk4 j (by omega)]; exact hk1 j (by omega)) (by rw [← hp3]; exact (by rw [hk4 _ (by omega)]; exact hk2)) (by rw [← hp3]; exact (by rw [hk4 _ (by omega)]; exact hk3)) (by rw [← hp3]; exact (fun h9 => absurd h9 (by omega))) ⟨by omega, by omega, by omega⟩ hmt (by omega) (by omega)
                rw [show so + 4 + M = s2 + L + M + 4 by omega, show p3 + 2 = p2 + 1 + enc L + L + 2 + enc M by omega]
                exact h9
              exact K2 _ _ _ _ _ ⟨so + 4 + M, p3 + 2, h3, rfl, ⟨s2, p2, L, so - rf, M, hz.keep (fun j hj => by rw [hk4 j (by omega)]; exact hk1 j (by omega)), step9⟩, by rw [hw3]; exact aB_upd hh1 (by8_bB _), (lv_sub hl [4, 5, 6, 7, 8, 9, 10, 11, 0, 3, 12] rfl), hP, hD, hS, rfl, rfl⟩
            · refine lv_aload_n hx hb dX2_compress64k_343 rfl (lv_at hl 6 rfl) ?_
              refine lv_iload hx hb dX2_compress64k_344 (lv_at hl 13 rfl) ?_
              refine lv_aload_n hx hb dX2_compress64k_346 rfl (lv_at hl 6 rfl) ?_
              refine lv_iload hx hb dX2_compress64k_347 (lv_at hl 13 rfl) ?_
              refine vp_callSi (W.runS (As := [.ref a0, .int (nI p2)]) (rest := [.int (nI p2), .ref a0]) ⟨hx, hb, hml, hown, hts⟩ (mt_readByte l D cl a0 d0 16464 h1 p2 (by omega) (by omega) (hh1 _)) (va_cwS 2 hts (lw_S q300 q301 q10 q302) rfl rfl rfl (by decide +kernel) ⟨Nat.le_of_ble_eq_true rfl, Nat.le_of_ble_eq_true rfl⟩) (pcR_pre (hP.sub [1] rfl) (hK.sub [1] rfl)) rfl rfl hl.1 rfl (lv_room (Nat.le_of_ble_eq_true rfl)) dX2_compress64k_349 ⟨Nat.le_of_ble_eq_true rfl, Nat.le_of_ble_eq_true rfl⟩) (fun r4 hr4 => ?_)
              rw [htok] at hr4
              subst hr4
              refine lv_bipush (v := nI 15) hx hb dX2_compress64k_352 (by decide +kernel) ?_
              refine lv_ior hx hb dX2_compress64k_354 ?_
              have e1 := enc_hi (v := M) (by omega)
              have e3 := m15_hi (v := M) (by omega)
              refine n_callv (va_runS (As := [.ref a0, .int (nI p2), .int ((by8 (m15 L * 16)) ||| (nI 15))]) (rest := []) ⟨hx, hb, hml, hown, hts⟩ (mt_writeByte l D cl a0 d0 16464 h1 p2 ((by8 (m15 L * 16)) ||| (nI 15)) (by8 (m15 L * 16 + 15)) (by omega) (by omega) (by8_or _ (by omega) _ (by omega)) H.size) (va_cwS 3 hts (lw_S q272 q273 q10 q274) rfl rfl rfl (by decide +kernel) ⟨Nat.le_of_ble_eq_true rfl, Nat.le_of_ble_eq_true rfl⟩) (pcW_pre (hP.sub [1] rfl) (hK.sub [1] rfl) (hD.sub [1] (by decide) rfl)) rfl rfl hl.1 rfl (lv_room (Nat.le_of_ble_eq_true rfl)) dX2_compress64k_355 ⟨Nat.le_of_ble_eq_true rfl, Nat.le_of_ble_eq_true rfl⟩) hP hD hS hA [1] rfl (fun _ => rfl) (fun h2 H locs hw3 hP hD hS => ?_)
              have hP : va_P D cl [(b0, .inl (d1, 16384, .inl f)), (a0, .inl (d0, 16464, .inl h2)), (q, .inl (d2, 8192, .inl t))] H := hP
              have hD : va_D A [(b0, .inl (d1, 16384, .inl f)), (a0, .inl (d0, 16464, .inl h2)), (q, .inl (d2, 8192, .inl t))] := hD
              have hk4 : ∀ j : Nat, j ≠ p2 → h2 j = h1 j := fun j hj => by rw [hw3]; exact pk_un hj
              have hh2 : aB h2 := by rw [hw3]; exact aB_upd hh1 (by8_bB _)
              refine lv_iload hx hb dX2_compress64k_358 (lv_at hl 1 rfl) ?_
              refine lv_bipush (v := nI 15) hx hb dX2_compress64k_360 (by decide +kernel) ?_
              refine n_isub hx hb dX2_compress64k_362 (by omega) ?_
              refine lv_aload_n hx hb dX2_compress64k_363 rfl (lv_at hl 6 rfl) ?_
              refine lv_iload hx hb dX2_compress64k_364 (lv_at hl 3 rfl) ?_
              refine n_calli (va_runS (As := [.int (nI (M - 15)), .ref a0, .int (nI (p3 + 2))]) (rest := []) ⟨hx, hb, hml, hown, hts⟩ (mt_writeLen l D cl a0 d0 16464 h2 (M - 15) (p3 + 2) (by omega) (by omega) (by omega) hh2 H.size) (va_cwS 3 hts (lw_S q275 q276 q19 q277) rfl rfl rfl (by decide +kernel) ⟨Nat.le_of_ble_eq_true rfl, Nat.le_of_ble_eq_true rfl⟩) (pcW_pre (hP.sub [1] rfl) (hK.sub [1] rfl) (hD.sub [1] (by decide) rfl)) rfl rfl hl.1 rfl (lv_room (Nat.le_of_ble_eq_true rfl)) dX2_compress64k_366 ⟨Nat.le_of_ble_eq_true rfl, Nat.le_of_ble_eq_true rfl⟩) hP hD hS hA [1] rfl (fun _ => rfl) (fun r5 h3 H locs hw4 hP hD hS => ?_)
              have hP : va_P D cl [(b0, .inl (d1, 16384, .inl f)), (a0, .inl (d0, 16464, .inl h3)), (q, .inl (d2, 8192, .inl t))] H := hP
              have hD : va_D A [(b0, .inl (d1, 16384, .inl f)), (a0, .inl (d0, 16464, .inl h3)), (q, .inl (d2, 8192, .inl t))] := hD
              obtain ⟨rfl, hw5, hw6, hw7⟩ := hw4
              refine lv_istore (lv' := [(10, .int (nI (p3 + 2 + (M - 15) / 255 + 1))), (9, .int (nI ((so + 4) + M))), (20, .int (nI M)), (14, .int (nI (rf + 4))), (0, .ref b0), (1, .int (nI 0)), (3, .ref a0), (4, .int (nI 0)), (5, .int (nI 16464)), (6, .int (nI n)), (7, .int (nI (n - 5))), (8, .int (nI (n - 12))), (12, .ref q), (19, .int (nI p2))]) hx hb dX2_compress64k_369 hl (by decide) rfl (fun ls hl => ?_)
              refine lv_goto (tgt := 389) hx hb dX2_compress64k_371 (by decide) ?_
              have step9 : zStep f h3 n s2 p2 L (so - rf) M (so + 4 + M) (p3 + 2 + (M - 15) / 255 + 1) := by
                have h9 := zStep.mk (d' := h3) (n := n) (off := so - rf) (M := M) hhalf (by rw [hw5 p2 (by omega), hw3, pk_us, e3]) (fun j a b => by rw [hw5 j (by omega), hk4 j (by omega)]; exact hk1 j (by omega)) (by rw [← hp3]; exact (by rw [hw5 _ (by omega), hk4 _ (by omega)]; exact hk2)) (by rw [← hp3]; exact (by rw [hw5 _ (by omega), hk4 _ (by omega)]; exact hk3)) (by rw [← hp3]; exact (fun _ => hw6)) ⟨by omega, by omega, by omega⟩ hmt (by omega) (by omega)
                rw [show so + 4 + M = s2 + L + M + 4 by omega, show p3 + 2 + (M - 15) / 255 + 1 = p2 + 1 + enc L + L + 2 + enc M by omega]
                exact h9
              exact K2 _ _ _ _ _ ⟨so + 4 + M, p3 + 2 + (M - 15) / 255 + 1, h3, rfl, ⟨s2, p2, L, so - rf, M, hz.keep (fun j hj => by rw [hw5 j (by omega), hk4 j (by omega)]; exact hk1 j (by omega)), step9⟩, hw7, (lv_sub hl [4, 5, 6, 7, 8, 9, 10, 11, 1, 0, 12] rfl), hP, hD, hS, rfl, rfl⟩
        · refine n_icmp_lt (tgt := 239) hx hb dX2_compress64k_211 (by decide) (by omega) (by omega) (fun c__10 => ?_) (fun c__10 => ?_)
          · refine lv_aload_n hx hb dX2_compress64k_239 rfl (lv_at hl 11 rfl) ?_
            refine lv_iload hx hb dX2_compress64k_240 (lv_at hl 0 rfl) ?_
            refine lv_iload hx hb dX2_compress64k_242 (lv_at hl 2 rfl) ?_
            refine lv_iconst (v := nI 4) hx hb dX2_compress64k_244 (by decide +kernel) ?_
            refine lv_ishl hx hb dX2_compress64k_245 ?_
            refine n_topI (y := nI (L * 16)) (shl4 (by omega)) ?_
            refine n_callv (va_runS (As := [.ref a0, .int (nI p1), .int (nI (L * 16))]) (rest := []) ⟨hx, hb, hml, hown, hts⟩ (mt_writeByte l D cl a0 d0 16464 h p1 (nI (L * 16)) (by8 (L * 16)) (by omega) (by omega) rfl H.size) (va_cwS 3 hts (lw_S q272 q273 q10 q274) rfl rfl rfl (by decide +kernel) ⟨Nat.le_of_ble_eq_true rfl, Nat.le_of_ble_eq_true rfl⟩) (pcW_pre (hP.sub [1] rfl) (hK.sub [1] rfl) (hD.sub [1] (by decide) rfl)) rfl rfl hl.1 rfl (lv_room (Nat.le_of_ble_eq_true rfl)) dX2_compress64k_246 ⟨Nat.le_of_ble_eq_true rfl, Nat.le_of_ble_eq_true rfl⟩) hP hD hS hA [1] rfl (fun _ => rfl) (fun h1 H locs hw hP hD hS => ?_)
            have hP : va_P D cl [(b0, .inl (d1, 16384, .inl f)), (a0, .inl (d0, 16464, .inl h1)), (q, .inl (d2, 8192, .inl t2))] H := hP
            have hD : va_D A [(b0, .inl (d1, 16384, .inl f)), (a0, .inl (d0, 16464, .inl h1)), (q, .inl (d2, 8192, .inl t2))] := hD
            have e1 := enc_lo c__10
            have e3 := m15_lo c__10
            exact K _ _ _ _ _ ⟨p1 + 1, h1, by omega, fun j hj => by rw [hw]; exact pk_un (by omega), by rw [hw, pk_us, e3], fun h9 => absurd h9 (by omega), by rw [hw]; exact aB_upd hh (by8_bB _), (lv_sub hl [9, 10, 11, 12, 13, 14, 15, 16, 4, 1, 17, 18, 3, 2, 0] rfl), hP, hD, hS, rfl, rfl⟩
          · refine lv_aload_n hx hb dX2_compress64k_214 rfl (lv_at hl 11 rfl) ?_
            refine lv_iload hx hb dX2_compress64k_215 (lv_at hl 0 rfl) ?_
            refine lv_sipush (v := nI 240) hx hb dX2_compress64k_217 (by decide +kernel) ?_
            refine n_callv (va_runS (As := [.ref a0, .int (nI p1), .int (nI 240)]) (rest := []) ⟨hx, hb, hml, hown, hts⟩ (mt_writeByte l D cl a0 d0 16464 h p1 (nI 240) (by8 240) (by omega) (by omega) rfl H.size) (va_cwS 3 hts (lw_S q272 q273 q10 q274) rfl rfl rfl (by decide +kernel) ⟨Nat.le_of_ble_eq_true rfl, Nat.le_of_ble_eq_true rfl⟩) (pcW_pre (hP.sub [1] rfl) (hK.sub [1] rfl) (hD.sub [1] (by decide) rfl)) rfl rfl hl.1 rfl (lv_room (Nat.le_of_ble_eq_true rfl)) dX2_compress64k_220 ⟨Nat.le_of_ble_eq_true rfl, Nat.le_of_ble_eq_true rfl⟩) hP hD hS hA [1] rfl (fun _ => rfl) (fun h1 H locs hw hP hD hS => ?_)
            have hP : va_P D cl [(b0, .inl (d1, 16384, .inl f)), (a0, .inl (d0, 16464, .inl h1)), (q, .inl (d2, 8192, .inl t2))] H := hP
            have hD : va_D A [(b0, .inl (d1, 16384, .inl f)), (a0, .inl (d0, 16464, .inl h1)), (q, .inl (d2, 8192, .inl t2))] := hD
            refine lv_iload hx hb dX2_compress64k_223 (lv_at hl 2 rfl) ?_
            refine lv_bipush (v := nI 15) hx hb dX2_compress64k_225 (by decide +kernel) ?_
            refine n_isub hx hb dX2_compress64k_227 (by omega) ?_
            refine lv_aload_n hx hb dX2_compress64k_228 rfl (lv_at hl 11 rfl) ?_
            refine lv_iload hx hb dX2_compress64k_229 (lv_at hl 1 rfl) ?_
            have hh1a : aB h1 := by rw [hw]; exact aB_upd hh (by8_bB _)
            have e1 := enc_hi (v := L) (by omega)
            have e3 := m15_hi (v := L) (by omega)
            refine n_calli (va_runS (As := [.int (nI (L - 15)), .ref a0, .int (nI (p1 + 1))]) (rest := []) ⟨hx, hb, hml, hown, hts⟩ (mt_writeLen l D cl a0 d0 16464 h1 (L - 15) (p1 + 1) (by omega) (by omega) (by omega) hh1a H.size) (va_cwS 3 hts (lw_S q275 q276 q19 q277) rfl rfl rfl (by decide +kernel) ⟨Nat.le_of_ble_eq_true rfl, Nat.le_of_ble_eq_true rfl⟩) (pcW_pre (hP.sub [1] rfl) (hK.sub [1] rfl) (hD.sub [1] (by decide) rfl)) rfl rfl hl.1 rfl (lv_room (Nat.le_of_ble_eq_true rfl)) dX2_compress64k_231 ⟨Nat.le_of_ble_eq_true rfl, Nat.le_of_ble_eq_true rfl⟩) hP hD hS hA [1] rfl (fun _ => rfl) (fun r8 h3 H locs hw2 hP hD hS => ?_)
            have hP : va_P D cl [(b0, .inl (d1, 16384, .inl f)), (a0, .inl (d0, 16464, .inl h3)), (q, .inl (d2, 8192, .inl t2))] H := hP
            have hD : va_D A [(b0, .inl (d1, 16384, .inl f)), (a0, .inl (d0, 16464, .inl h3)), (q, .inl (d2, 8192, .inl t2))] := hD
            obtain ⟨rfl, hw3, hw4, hw5⟩ := hw2
            refine lv_istore (lv' := [(10, .int (nI (p1 + 1 + (L - 15) / 255 + 1))), (19, .int (nI p1)), (18, .int (nI L)), (14, .int (nI rf)), (9, .int (nI so)), (17, .int (nI x)), (15, .int (nI (nb / 64))), (16, .int (nI (nb + 1))), (13, .int (nI (fo + st))), (0, .ref b0), (1, .int (nI 0)), (3, .ref a0), (4, .int (nI 0)), (5, .int (nI 16464)), (6, .int (nI n)), (7, .int (nI (n - 5))), (8, .int (nI (n - 12))), (11, .int (nI s1)), (12, .ref q)]) hx hb dX2_compress64k_234 hl (by decide) rfl (fun ls hl => ?_)
            refine lv_goto (tgt := 249) hx hb dX2_compress64k_236 (by decide) ?_
            exact K _ _ _ _ _ ⟨p1 + 1 + (L - 15) / 255 + 1, h3, by omega, fun j hj => by rw [hw3 j (by omega), hw]; exact pk_un (by omega), by rw [hw3 p1 (by omega), hw, pk_us, e3], fun _ => hw4, hw5, (lv_sub hl [9, 10, 11, 12, 13, 14, 15, 16, 4, 0, 17, 18, 3, 2, 1] rfl), hP, hD, hS, rfl, rfl⟩
    · refine lv_goto (tgt := 499) hx hb dX2_compress64k_88 (by decide) ?_
      exact E _ _ _ _ _ ⟨k, s1, p1, h, hz, by omega, hh, (lv_sub hl [4, 6, 7, 8, 9, 12, 13] rfl), hP.sub [0, 1] rfl, hD.sub [0, 1] (by decide) rfl, hS, rfl, rfl⟩
end
section
/-! compress and decompress -/
theorem zDec.lt {src d : Nat → Int32} {n e : Nat} : ∀ {k s p : Nat}, zDec src d n e k s p → p < e ∧ s ≤ n
  | 0, s, p, ⟨_, h1, h2⟩ => by omega
  | k + 1, s, p, ⟨L, off, M, s', p', h1, h2⟩ => by
    have h3 := h1.le
    have h4 := zDec.lt h2
    omega
theorem zDec.head {src d : Nat → Int32} {n e : Nat} {k s p : Nat} (h : zDec src d n e k s p) : ∃ L mm : Nat, mm < 16 ∧ d p = by8 (m15 L * 16 + mm) ∧ zExt d (p + 1) L ∧ (∀ i : Nat, i < L → d (p + 1 + enc L + i) = src (s + i)) ∧ p + 1 + enc L + L ≤ e ∧ s + L ≤ n ∧ ((k = 0 ∧ L = n - s ∧ e = p + 1 + enc L + L) ∨ ∃ k1 off M s' p' : Nat, k = k1 + 1 ∧ mm = m15 M ∧ zStep src d n s p L off M s' p' ∧ zDec src d n e k1 s' p') := by
  match k, h with
  | 0, h =>
    obtain ⟨⟨h1, h2, h3⟩, h4, h5⟩ := h
    exact ⟨n - s, 0, by omega, h1, h2, h3, by omega, by omega, Or.inl ⟨rfl, rfl, h5⟩⟩
  | k + 1, h =>
    obtain ⟨L, off, M, s', p', h1, h2⟩ := h
    have h3 := h2.lt
    have h4 := m15_le M
    obtain ⟨a1, a2, a3, a4, a5, a6, a7, a8, a9, a10, a11, a12⟩ := id h1
    exact ⟨L, m15 M, by omega, a1, a2, a3, by omega, by omega, Or.inr ⟨k, off, M, s', p', rfl, rfl, h1, h2⟩⟩
theorem copy_ok {u sr : Nat → Int32} {q so off w : Nat} (h1 : ∀ j : Nat, j < q → u j = sr j) (h2 : ∀ i : Nat, i < w → u (q + i) = u (so + i)) (h3 : so + off = q) (h4 : 1 ≤ off) (h5 : ∀ i : Nat, i < w → sr (q + i) = sr (q + i - off)) : ∀ j : Nat, j < q + w → u j = sr j := by
  intro j
  induction j using Nat.strongRecOn with
  | _ j ih =>
    intro hj
    rcases Nat.lt_or_ge j q with h9 | h9
    · exact h1 j h9
    · have h8 := h2 (j - q) (by omega)
      have h7 := h5 (j - q) (by omega)
      rw [show q + (j - q) = j by omega] at h8 h7
      rw [h8, h7, show so + (j - q) = j - off by omega]
      exact ih (j - off) (by omega) (by omega)

set_option maxHeartbeats 4000000 in
set_option maxRecDepth 100000 in
/-- compress: on so few bytes it is compress64k -/
theorem mt_compress (l : Launch) (D : va_G) (cl : List vw_C) (h0 : Nat) (b0 : Nat) (d1 : ClassId) (f : Nat → Int32) (a0 : Nat) (d0 : ClassId) (g : Nat → Int32) (n : Nat) (hn : n ≤ 16384) (hf : aB f) (hg : aB g) (sz : Nat) : Met l yX2_compress (ws_ yX2_compress cX2_compress 25 (some .int)) ({ frames := 5, cells := 1, slots := 8192, locals := 600 }) (pcZ [.ref h0, .ref b0, .int (nI 0), .int (nI n), .ref a0, .int (nI 0), .int (nI 16464)] D cl [(b0, .inl (d1, 16384, .inl f)), (a0, .inl (d0, 16464, .inl g))] [(d1, .byte), (d0, .byte)] sz) (va_Qi (fun (r : Int32) (u : Nat → Int32) => ∃ e9 : Nat, r = nI e9 ∧ zBlock f u n e9 ∧ 255 * e9 ≤ 256 * n + 495 ∧ aB u) (fun (u : Nat → Int32) t => va_P D cl [(b0, .inl (d1, 16384, .inl f)), (a0, .inl (d0, 16464, .inl u))] t.heap) (va_A [(b0, .inl (d1, 16384, .inl f)), (a0, .inl (d0, 16464, .inl g))] sz)) 1 8192 (va_A [(b0, .inl (d1, 16384, .inl f)), (a0, .inl (d0, 16464, .inl g))] sz) := by
  refine n_metZ (Qc := fun A => va_Qi (fun (r : Int32) (u : Nat → Int32) => ∃ e9 : Nat, r = nI e9 ∧ zBlock f u n e9 ∧ 255 * e9 ≤ 256 * n + 495 ∧ aB u) (fun (u : Nat → Int32) t => va_P D cl [(b0, .inl (d1, 16384, .inl f)), (a0, .inl (d0, 16464, .inl u))] t.heap) A) (by decide) (Nat.le_of_ble_eq_true rfl) ?_
  intro p e s m below meth c hx hb hr hlocks hml hown hin hts hP hK A hsz hD hA hS hZ ls hl
  have hown : s.vm.findClass "LZ4JavaSafeCompressor" = some m.cls := hown
  have hl : lv_has ls 25 [(0, .ref h0), (1, .ref b0), (2, .int (nI 0)), (3, .int (nI n)), (4, .ref a0), (5, .int (nI 0)), (6, .int (nI 16464))] := hl
  refine lv_aload_n hx hb dX2_compress_0 rfl (lv_at hl 1 rfl) ?_
  refine lv_iload_n hx hb dX2_compress_1 rfl (lv_at hl 2 rfl) ?_
  refine lv_iload_n hx hb dX2_compress_2 rfl (lv_at hl 3 rfl) ?_
  refine va_csv (W.runS (As := [.ref b0, .int (nI 0), .int (nI n)]) (rest := []) ⟨hx, hb, hml, hown, hts⟩ (mt_checkRange l D cl b0 d1 16384 f 0 n (by omega) (by omega)) (va_cwS 3 hts (lw_S q118 q119 q10 q120) rfl rfl rfl (by decide +kernel) ⟨Nat.le_of_ble_eq_true rfl, Nat.le_of_ble_eq_true rfl⟩) (pcR_pre (hP.sub [0] rfl) (hK.sub [0] rfl)) rfl rfl hl.1 rfl (lv_room (Nat.le_of_ble_eq_true rfl)) dX2_compress_3 ⟨Nat.le_of_ble_eq_true rfl, Nat.le_of_ble_eq_true rfl⟩) (fun _ => ?_)
  refine lv_aload hx hb dX2_compress_6 (lv_at hl 4 rfl) ?_
  refine lv_iload hx hb dX2_compress_8 (lv_at hl 5 rfl) ?_
  refine lv_iload hx hb dX2_compress_10 (lv_at hl 6 rfl) ?_
  refine va_csv (W.runS (As := [.ref a0, .int (nI 0), .int (nI 16464)]) (rest := []) ⟨hx, hb, hml, hown, hts⟩ (mt_checkRange l D cl a0 d0 16464 g 0 16464 (by omega) (by omega)) (va_cwS 3 hts (lw_S q118 q119 q10 q120) rfl rfl rfl (by decide +kernel) ⟨Nat.le_of_ble_eq_true rfl, Nat.le_of_ble_eq_true rfl⟩) (pcR_pre (hP.sub [1] rfl) (hK.sub [1] rfl)) rfl rfl hl.1 rfl (lv_room (Nat.le_of_ble_eq_true rfl)) dX2_compress_12 ⟨Nat.le_of_ble_eq_true rfl, Nat.le_of_ble_eq_true rfl⟩) (fun _ => ?_)
  refine lv_iload hx hb dX2_compress_15 (lv_at hl 5 rfl) ?_
  refine lv_iload hx hb dX2_compress_17 (lv_at hl 6 rfl) ?_
  refine n_iadd hx hb dX2_compress_19 ?_
  refine n_top (b := 16464) (by omega) ?_
  refine lv_istore (lv' := [(7, .int (nI 16464)), (0, .ref h0), (1, .ref b0), (2, .int (nI 0)), (3, .int (nI n)), (4, .ref a0), (5, .int (nI 0)), (6, .int (nI 16464))]) hx hb dX2_compress_20 hl (by decide) rfl (fun ls hl => ?_)
  refine lv_iload_n hx hb dX2_compress_22 rfl (lv_at hl 4 rfl) ?_
  refine lv_ldc hx hb hown (hts _ q212) dX2_compress_23 ?_
  refine n_topI (show (65547 : Int32) = nI 65547 by decide +kernel) ?_
  refine n_icmp_ge (tgt := 41) hx hb dX2_compress_25 (by decide) (by omega) (by omega) (fun c__1 => (by exfalso; omega)) (fun c__1 => ?_)
  refine lv_aload_n hx hb dX2_compress_28 rfl (lv_at hl 2 rfl) ?_
  refine lv_iload_n hx hb dX2_compress_29 rfl (lv_at hl 3 rfl) ?_
  refine lv_iload_n hx hb dX2_compress_30 rfl (lv_at hl 4 rfl) ?_
  refine lv_aload hx hb dX2_compress_31 (lv_at hl 5 rfl) ?_
  refine lv_iload hx hb dX2_compress_33 (lv_at hl 6 rfl) ?_
  refine lv_iload hx hb dX2_compress_35 (lv_at hl 0 rfl) ?_
  refine n_calli (va_runS (As := [.ref b0, .int (nI 0), .int (nI n), .ref a0, .int (nI 0), .int (nI 16464)]) (rest := []) ⟨hx, hb, hml, hown, hts⟩ (mt_c64 l D cl b0 d1 f a0 d0 g n hn hf hg s.heap.size) (va_cwS 6 hts (lw_S q213 q214 q5 q215) rfl rfl rfl (by decide +kernel) ⟨Nat.le_of_ble_eq_true rfl, Nat.le_of_ble_eq_true rfl⟩) (pcZ_pre (hP.sub [0, 1] rfl) (hK.sub [0, 1] rfl) (hD.sub [0, 1] (by decide) rfl) (skZ_at hZ hS (va_free hD hS hA [0, 1] rfl))) rfl rfl hl.1 rfl (lv_room (Nat.le_of_ble_eq_true rfl)) dX2_compress_37 ⟨Nat.le_of_ble_eq_true rfl, Nat.le_of_ble_eq_true rfl⟩) hP hD hS hA [0, 1] rfl (fun _ => rfl) (fun r1 h2 H locs hw hP hD hS => ?_)
  have hP : va_P D cl [(b0, .inl (d1, 16384, .inl f)), (a0, .inl (d0, 16464, .inl h2))] H := hP
  have hD : va_D A [(b0, .inl (d1, 16384, .inl f)), (a0, .inl (d0, 16464, .inl h2))] := hD
  obtain ⟨e9, rfl, hw⟩ := hw
  exact W.iret (v := nI e9) hx hb hr (fun t ht hW => ⟨⟨nI e9, h2, rfl, ⟨_, rfl, hw⟩, n_hP ht hP⟩, hS.F ht⟩) hS.2.2 dX2_compress_40

set_option maxHeartbeats 4000000 in
set_option maxRecDepth 100000 in
/-- decompress: a block gives back its bytes -/
theorem mt_decompress (l : Launch) (D : va_G) (cl : List vw_C) (h0 : Nat) (b0 : Nat) (d1 : ClassId) (f : Nat → Int32) (a0 : Nat) (d0 : ClassId) (g sr : Nat → Int32) (n e9 : Nat) (hn : n ≤ 16384) (he : e9 ≤ 16464) (hz : zBlock sr f n e9) (hf : aB f) (hg : aB g) (sz : Nat) : Met l yX4_decompress (ws_ yX4_decompress cX4_decompress 18 (some .int)) ({ frames := 3, cells := 0, slots := 0, locals := 400 }) (pcW [.ref h0, .ref b0, .int (nI 0), .int (nI e9), .ref a0, .int (nI 0), .int (nI 16384)] D cl [(b0, .inl (d1, 16464, .inl f)), (a0, .inl (d0, 16384, .inl g))] [(d1, .byte), (d0, .byte)] sz) (va_Qi (fun (r : Int32) (u : Nat → Int32) => r = nI n ∧ (∀ j : Nat, j < n → u j = sr j) ∧ aB u) (fun (u : Nat → Int32) t => va_P D cl [(b0, .inl (d1, 16464, .inl f)), (a0, .inl (d0, 16384, .inl u))] t.heap) (va_A [(b0, .inl (d1, 16464, .inl f)), (a0, .inl (d0, 16384, .inl g))] sz)) 0 0 (va_A [(b0, .inl (d1, 16464, .inl f)), (a0, .inl (d0, 16384, .inl g))] sz) := by
  refine n_metW (Qc := fun A => va_Qi (fun (r : Int32) (u : Nat → Int32) => r = nI n ∧ (∀ j : Nat, j < n → u j = sr j) ∧ aB u) (fun (u : Nat → Int32) t => va_P D cl [(b0, .inl (d1, 16464, .inl f)), (a0, .inl (d0, 16384, .inl u))] t.heap) A) (by decide) (Nat.le_of_ble_eq_true rfl) ?_
  intro p e s m below meth c hx hb hr hlocks hml hown hin hts hP hK A hsz hD hA hS ls hl
  have hown : s.vm.findClass "LZ4JavaSafeSafeDecompressor" = some m.cls := hown
  have hl : lv_has ls 18 [(0, .ref h0), (1, .ref b0), (2, .int (nI 0)), (3, .int (nI e9)), (4, .ref a0), (5, .int (nI 0)), (6, .int (nI 16384))] := hl
  refine lv_aload_n hx hb dX4_decompress_0 rfl (lv_at hl 1 rfl) ?_
  refine lv_iload_n hx hb dX4_decompress_1 rfl (lv_at hl 2 rfl) ?_
  refine lv_iload_n hx hb dX4_decompress_2 rfl (lv_at hl 3 rfl) ?_
  refine va_csv (W.runS (As := [.ref b0, .int (nI 0), .int (nI e9)]) (rest := []) ⟨hx, hb, hml, hown, hts⟩ (mt_checkRange l D cl b0 d1 16464 f 0 e9 (by omega) (by omega)) (va_cwS 3 hts (lw_S q346 q119 q10 q120) rfl rfl rfl (by decide +kernel) ⟨Nat.le_of_ble_eq_true rfl, Nat.le_of_ble_eq_true rfl⟩) (pcR_pre (hP.sub [0] rfl) (hK.sub [0] rfl)) rfl rfl hl.1 rfl (lv_room (Nat.le_of_ble_eq_true rfl)) dX4_decompress_3 ⟨Nat.le_of_ble_eq_true rfl, Nat.le_of_ble_eq_true rfl⟩) (fun _ => ?_)
  refine lv_aload hx hb dX4_decompress_6 (lv_at hl 4 rfl) ?_
  refine lv_iload hx hb dX4_decompress_8 (lv_at hl 5 rfl) ?_
  refine lv_iload hx hb dX4_decompress_10 (lv_at hl 6 rfl) ?_
  refine va_csv (W.runS (As := [.ref a0, .int (nI 0), .int (nI 16384)]) (rest := []) ⟨hx, hb, hml, hown, hts⟩ (mt_checkRange l D cl a0 d0 16384 g 0 16384 (by omega) (by omega)) (va_cwS 3 hts (lw_S q346 q119 q10 q120) rfl rfl rfl (by decide +kernel) ⟨Nat.le_of_ble_eq_true rfl, Nat.le_of_ble_eq_true rfl⟩) (pcR_pre (hP.sub [1] rfl) (hK.sub [1] rfl)) rfl rfl hl.1 rfl (lv_room (Nat.le_of_ble_eq_true rfl)) dX4_decompress_12 ⟨Nat.le_of_ble_eq_true rfl, Nat.le_of_ble_eq_true rfl⟩) (fun _ => ?_)
  refine lv_iload hx hb dX4_decompress_15 (lv_at hl 6 rfl) ?_
  refine n_if_ne (tgt := 45) hx hb dX4_decompress_17 (by decide) (by omega) (fun c__1 => ?_) (fun c__1 => (by exfalso; omega))
  refine lv_iload_n hx hb dX4_decompress_45 rfl (lv_at hl 2 rfl) ?_
  refine lv_iload_n hx hb dX4_decompress_46 rfl (lv_at hl 3 rfl) ?_
  refine n_iadd hx hb dX4_decompress_47 ?_
  refine n_top (b := e9) (by omega) ?_
  refine lv_istore (lv' := [(7, .int (nI e9)), (0, .ref h0), (1, .ref b0), (2, .int (nI 0)), (3, .int (nI e9)), (4, .ref a0), (5, .int (nI 0)), (6, .int (nI 16384))]) hx hb dX4_decompress_48 hl (by decide) rfl (fun ls hl => ?_)
  refine lv_iload hx hb dX4_decompress_50 (lv_at hl 6 rfl) ?_
  refine lv_iload hx hb dX4_decompress_52 (lv_at hl 7 rfl) ?_
  refine n_iadd hx hb dX4_decompress_54 ?_
  refine n_top (b := 16384) (by omega) ?_
  refine lv_istore (lv' := [(8, .int (nI 16384)), (7, .int (nI e9)), (0, .ref h0), (1, .ref b0), (2, .int (nI 0)), (3, .int (nI e9)), (4, .ref a0), (5, .int (nI 0)), (6, .int (nI 16384))]) hx hb dX4_decompress_55 hl (by decide) rfl (fun ls hl => ?_)
  refine lv_iload_n hx hb dX4_decompress_57 rfl (lv_at hl 4 rfl) ?_
  refine lv_istore (lv' := [(9, .int (nI 0)), (8, .int (nI 16384)), (7, .int (nI e9)), (0, .ref h0), (1, .ref b0), (2, .int (nI 0)), (3, .int (nI e9)), (4, .ref a0), (5, .int (nI 0)), (6, .int (nI 16384))]) hx hb dX4_decompress_58 hl (by decide) rfl (fun ls hl => ?_)
  refine lv_iload hx hb dX4_decompress_60 (lv_at hl 8 rfl) ?_
  refine lv_istore (lv' := [(10, .int (nI 0)), (9, .int (nI 0)), (8, .int (nI 16384)), (7, .int (nI e9)), (0, .ref h0), (1, .ref b0), (2, .int (nI 0)), (3, .int (nI e9)), (4, .ref a0), (5, .int (nI 0)), (6, .int (nI 16384))]) hx hb dX4_decompress_62 hl (by decide) rfl (fun ls hl => ?_)
  obtain ⟨k0, hz⟩ := hz
  refine n_loopAt 64 (fun n9 H locs ls cells slots => ∃ s1 : Nat, ∃ p1 : Nat, ∃ h : Nat → Int32, (zDec sr f n e9 n9 s1 p1) ∧ (∀ j : Nat, j < s1 → h j = sr j) ∧ (aB h) ∧ lv_has ls 18 [(1, .ref b0), (4, .ref a0), (5, .int (nI 0)), (7, .int (nI e9)), (8, .int (nI 16384)), (9, .int (nI p1)), (10, .int (nI s1))] ∧ va_P D cl [(b0, .inl (d1, 16464, .inl f)), (a0, .inl (d0, 16384, .inl h))] H ∧ va_D A [(b0, .inl (d1, 16464, .inl f)), (a0, .inl (d0, 16384, .inl h))] ∧ va_S A s.heap H locs ∧ cells = 0 ∧ slots = 0) k0 ⟨0, 0, g, hz, fun j hj => absurd hj (by omega), hg, (lv_sub hl [5, 8, 9, 3, 2, 1, 0] rfl), hP, hD, hS, rfl, rfl⟩ ?_
  clear hz hl hP hD hS
  intro k ih H locs ls cells slots hI
  obtain ⟨s1, p1, h, hz, hsr, hh, hl, hP, hD, hS, rfl, rfl⟩ := hI
  obtain ⟨L, mm, hmm, htok, hext, hlit, hpe, hsn, hkind⟩ := hz.head
  have hen := enc_le L
  have hml2 := m15_le L
  refine lv_iload hx hb dX4_decompress_64 (lv_at hl 5 rfl) ?_
  refine lv_iload hx hb dX4_decompress_66 (lv_at hl 3 rfl) ?_
  refine n_icmp_lt (tgt := 81) hx hb dX4_decompress_68 (by decide) (by omega) (by omega) (fun c__2 => ?_) (fun c__2 => (by exfalso; omega))
  refine lv_aload_n hx hb dX4_decompress_81 rfl (lv_at hl 0 rfl) ?_
  refine lv_iload hx hb dX4_decompress_82 (lv_at hl 5 rfl) ?_
  refine vp_callSi (W.runS (As := [.ref b0, .int (nI p1)]) (rest := []) ⟨hx, hb, hml, hown, hts⟩ (mt_readByte l D cl b0 d1 16464 f p1 (by omega) (by omega) (hf _)) (va_cwS 2 hts (lw_S q347 q301 q10 q302) rfl rfl rfl (by decide +kernel) ⟨Nat.le_of_ble_eq_true rfl, Nat.le_of_ble_eq_true rfl⟩) (pcR_pre (hP.sub [0] rfl) (hK.sub [0] rfl)) rfl rfl hl.1 rfl (lv_room (Nat.le_of_ble_eq_true rfl)) dX4_decompress_84 ⟨Nat.le_of_ble_eq_true rfl, Nat.le_of_ble_eq_true rfl⟩) (fun r1 hr1 => ?_)
  rw [htok] at hr1
  subst hr1
  refine lv_sipush (v := nI 255) hx hb dX4_decompress_87 (by decide +kernel) ?_
  refine lv_iand hx hb dX4_decompress_90 ?_
  refine n_topI (y := nI (m15 L * 16 + mm)) (by8_255 _ (by omega)) ?_
  refine lv_istore (lv' := [(11, .int (nI (m15 L * 16 + mm))), (1, .ref b0), (4, .ref a0), (5, .int (nI 0)), (7, .int (nI e9)), (8, .int (nI 16384)), (9, .int (nI p1)), (10, .int (nI s1))]) hx hb dX4_decompress_91 hl (by decide) rfl (fun ls hl => ?_)
  refine lv_iinc (v := nI (p1 + 1)) (lv' := [(9, .int (nI (p1 + 1))), (11, .int (nI (m15 L * 16 + mm))), (1, .ref b0), (4, .ref a0), (5, .int (nI 0)), (7, .int (nI e9)), (8, .int (nI 16384)), (10, .int (nI s1))]) hx hb dX4_decompress_93 hl (k := 6) rfl (n_inc _ 1 (by decide +kernel)) (by decide) rfl (fun ls hl => ?_)
  refine lv_iload hx hb dX4_decompress_96 (lv_at hl 1 rfl) ?_
  refine lv_iconst (v := nI 4) hx hb dX4_decompress_98 (by decide +kernel) ?_
  refine lv_iushr hx hb dX4_decompress_99 rfl ?_
  refine n_topI (y := nI ((m15 L * 16 + mm) / 16)) (pk_ushrN (by omega) (nI 4) 4 (by decide +kernel)) ?_
  refine n_top (b := m15 L) (by omega) ?_
  refine lv_istore (lv' := [(12, .int (nI (m15 L))), (9, .int (nI (p1 + 1))), (11, .int (nI (m15 L * 16 + mm))), (1, .ref b0), (4, .ref a0), (5, .int (nI 0)), (7, .int (nI e9)), (8, .int (nI 16384)), (10, .int (nI s1))]) hx hb dX4_decompress_100 hl (by decide) rfl (fun ls hl => ?_)
  refine lv_iload hx hb dX4_decompress_102 (lv_at hl 0 rfl) ?_
  refine lv_bipush (v := nI 15) hx hb dX4_decompress_104 (by decide +kernel) ?_
  refine n_cut 167 (fun H locs ls cells slots => ∃ p2 : Nat, (p2 = p1 + 1 + enc L) ∧ lv_has ls 18 [(1, .ref b0), (4, .ref a0), (5, .int (nI 0)), (7, .int (nI e9)), (8, .int (nI 16384)), (9, .int (nI p2)), (10, .int (nI s1)), (11, .int (nI (m15 L * 16 + mm))), (12, .int (nI L))] ∧ va_P D cl [(b0, .inl (d1, 16464, .inl f)), (a0, .inl (d0, 16384, .inl h))] H ∧ va_D A [(b0, .inl (d1, 16464, .inl f)), (a0, .inl (d0, 16384, .inl h))] ∧ va_S A s.heap H locs ∧ cells = 0 ∧ slots = 0) ?_ (fun K => ?_)
  · clear hl hP hD hS
    intro H locs ls cells slots hI
    obtain ⟨p2, hp2, hl, hP, hD, hS, rfl, rfl⟩ := hI
    refine lv_iload hx hb dX4_decompress_167 (lv_at hl 6 rfl) ?_
    refine lv_iload hx hb dX4_decompress_169 (lv_at hl 8 rfl) ?_
    refine n_iadd hx hb dX4_decompress_171 ?_
    refine lv_istore (lv' := [(13, .int (nI (s1 + L))), (1, .ref b0), (4, .ref a0), (5, .int (nI 0)), (7, .int (nI e9)), (8, .int (nI 16384)), (9, .int (nI p2)), (10, .int (nI s1)), (11, .int (nI (m15 L * 16 + mm))), (12, .int (nI L))]) hx hb dX4_decompress_172 hl (by decide) rfl (fun ls hl => ?_)
    refine lv_iload hx hb dX4_decompress_174 (lv_at hl 0 rfl) ?_
    refine lv_iload hx hb dX4_decompress_176 (lv_at hl 7 rfl) ?_
    refine n_icmp_ge (tgt := 191) hx hb dX4_decompress_178 (by decide) (by omega) (by omega) (fun c__3 => ?_) (fun c__3 => (by exfalso; omega))
    refine lv_iload hx hb dX4_decompress_191 (lv_at hl 5 rfl) ?_
    refine lv_iload hx hb dX4_decompress_193 (lv_at hl 0 rfl) ?_
    refine n_isub hx hb dX4_decompress_195 (by omega) ?_
    refine lv_bipush (v := nI 8) hx hb dX4_decompress_196 (by decide +kernel) ?_
    refine vp_callSi (W.runS (As := [.int (nI (16384 - (s1 + L))), .int (nI 8)]) (rest := []) ⟨hx, hb, hml, hown, hts⟩ (mt_notEnough l D cl (16384 - (s1 + L)) 8 (by omega) (by omega)) (va_cwS 2 hts (lw_S q353 q267 q18 q268) rfl rfl rfl (by decide +kernel) ⟨Nat.le_of_ble_eq_true rfl, Nat.le_of_ble_eq_true rfl⟩) (pcR_pre (hP.sub [] rfl) (hK.sub [] rfl)) rfl rfl hl.1 rfl (lv_room (Nat.le_of_ble_eq_true rfl)) dX4_decompress_198 ⟨Nat.le_of_ble_eq_true rfl, Nat.le_of_ble_eq_true rfl⟩) (fun r2 hr2 => ?_)
    rcases hkind with ⟨hk0, hL, hee⟩ | ⟨k1, off, M, s3, p3, hk1, hmmM, hst, hz2⟩
    · have hsL : s1 + L = n := by omega
      refine lv_if_ne (tgt := 220) hx hb dX4_decompress_201 (by decide) (fun c__4 => ?_) (fun c__4 => ?_)
      · refine lv_iload hx hb dX4_decompress_220 (lv_at hl 0 rfl) ?_
        refine lv_iload hx hb dX4_decompress_222 (lv_at hl 5 rfl) ?_
        refine n_icmp_le (tgt := 235) hx hb dX4_decompress_224 (by decide) (by omega) (by omega) (fun c__5 => ?_) (fun c__5 => (by exfalso; omega))
        refine lv_iload hx hb dX4_decompress_235 (lv_at hl 6 rfl) ?_
        refine lv_iload hx hb dX4_decompress_237 (lv_at hl 9 rfl) ?_
        refine n_iadd hx hb dX4_decompress_239 ?_
        refine lv_iload hx hb dX4_decompress_240 (lv_at hl 4 rfl) ?_
        refine n_icmp_eq (tgt := 255) hx hb dX4_decompress_242 (by decide) (by omega) (by omega) (fun c__6 => ?_) (fun c__6 => (by exfalso; omega))
        refine lv_aload_n hx hb dX4_decompress_255 rfl (lv_at hl 1 rfl) ?_
        refine lv_iload hx hb dX4_decompress_256 (lv_at hl 6 rfl) ?_
        refine lv_aload hx hb dX4_decompress_258 (lv_at hl 2 rfl) ?_
        refine lv_iload hx hb dX4_decompress_260 (lv_at hl 7 rfl) ?_
        refine lv_iload hx hb dX4_decompress_262 (lv_at hl 9 rfl) ?_
        refine n_callv (va_runS (As := [.ref b0, .int (nI p2), .ref a0, .int (nI s1), .int (nI L)]) (rest := []) ⟨hx, hb, hml, hown, hts⟩ (mt_safeCopy l D cl b0 d1 16464 f a0 d0 16384 h p2 s1 L (by omega) (by omega) (by omega) (by omega) hf hh H.size) (va_cwS 5 hts (lw_S q355 q356 q19 q357) rfl rfl rfl (by decide +kernel) ⟨Nat.le_of_ble_eq_true rfl, Nat.le_of_ble_eq_true rfl⟩) (pcW_pre (hP.sub [0, 1] rfl) (hK.sub [0, 1] rfl) (hD.sub [0, 1] (by decide) rfl)) rfl rfl hl.1 rfl (lv_room (Nat.le_of_ble_eq_true rfl)) dX4_decompress_264 ⟨Nat.le_of_ble_eq_true rfl, Nat.le_of_ble_eq_true rfl⟩) hP hD hS hA [0, 1] rfl (fun _ => rfl) (fun h2 H locs hw hP hD hS => ?_)
        have hP : va_P D cl [(b0, .inl (d1, 16464, .inl f)), (a0, .inl (d0, 16384, .inl h2))] H := hP
        have hD : va_D A [(b0, .inl (d1, 16464, .inl f)), (a0, .inl (d0, 16384, .inl h2))] := hD
        obtain ⟨hw1, hw2, hw3⟩ := hw
        refine lv_iload hx hb dX4_decompress_267 (lv_at hl 6 rfl) ?_
        refine lv_iload hx hb dX4_decompress_269 (lv_at hl 9 rfl) ?_
        refine n_iadd hx hb dX4_decompress_271 ?_
        refine lv_istore (lv' := [(9, .int (nI (p2 + L))), (13, .int (nI (s1 + L))), (1, .ref b0), (4, .ref a0), (5, .int (nI 0)), (7, .int (nI e9)), (8, .int (nI 16384)), (10, .int (nI s1)), (11, .int (nI (m15 L * 16 + mm))), (12, .int (nI L))]) hx hb dX4_decompress_272 hl (by decide) rfl (fun ls hl => ?_)
        refine lv_iload hx hb dX4_decompress_274 (lv_at hl 1 rfl) ?_
        refine lv_istore (lv' := [(10, .int (nI (s1 + L))), (9, .int (nI (p2 + L))), (13, .int (nI (s1 + L))), (1, .ref b0), (4, .ref a0), (5, .int (nI 0)), (7, .int (nI e9)), (8, .int (nI 16384)), (11, .int (nI (m15 L * 16 + mm))), (12, .int (nI L))]) hx hb dX4_decompress_276 hl (by decide) rfl (fun ls hl => ?_)
        refine lv_goto (tgt := 534) hx hb dX4_decompress_278 (by decide) ?_
        refine lv_iload hx hb dX4_decompress_534 (lv_at hl 0 rfl) ?_
        refine lv_iload hx hb dX4_decompress_536 (lv_at hl 5 rfl) ?_
        refine n_isub hx hb dX4_decompress_538 (by omega) ?_
        refine n_top (b := n) (by omega) ?_
        have hpost : ∀ j : Nat, j < n → h2 j = sr j := by
          intro j hj
          rcases Nat.lt_or_ge j s1 with h9 | h9
          · rw [hw1 j h9]; exact hsr j h9
          · have h8 := hw2 (j - s1) (by omega)
            rw [show s1 + (j - s1) = j by omega, hp2, hlit _ (by omega), show s1 + (j - s1) = j by omega] at h8; exact h8
        exact W.iret (v := nI n) hx hb hr (fun t ht hW => ⟨⟨nI n, h2, rfl, ⟨rfl, hpost, hw3⟩, n_hP ht hP⟩, hS.F ht⟩) hS.2.2 dX4_decompress_539
      · refine lv_iload hx hb dX4_decompress_204 (lv_at hl 4 rfl) ?_
        refine lv_iload hx hb dX4_decompress_206 (lv_at hl 6 rfl) ?_
        refine n_isub hx hb dX4_decompress_208 (by omega) ?_
        refine lv_bipush (v := nI 8) hx hb dX4_decompress_209 (by decide +kernel) ?_
        refine lv_iload hx hb dX4_decompress_211 (lv_at hl 9 rfl) ?_
        refine n_iadd hx hb dX4_decompress_213 ?_
        refine vp_callSi (W.runS (As := [.int (nI (e9 - p2)), .int (nI (8 + L))]) (rest := []) ⟨hx, hb, hml, hown, hts⟩ (mt_notEnough l D cl (e9 - p2) (8 + L) (by omega) (by omega)) (va_cwS 2 hts (lw_S q353 q267 q18 q268) rfl rfl rfl (by decide +kernel) ⟨Nat.le_of_ble_eq_true rfl, Nat.le_of_ble_eq_true rfl⟩) (pcR_pre (hP.sub [] rfl) (hK.sub [] rfl)) rfl rfl hl.1 rfl (lv_room (Nat.le_of_ble_eq_true rfl)) dX4_decompress_214 ⟨Nat.le_of_ble_eq_true rfl, Nat.le_of_ble_eq_true rfl⟩) (fun r3 hr3 => ?_)
        rw [if_pos (by omega)] at hr3
        subst hr3
        refine lv_if_eq (tgt := 281) hx hb dX4_decompress_217 (by decide) (fun c__7 => absurd c__7 (by decide)) (fun c__7 => ?_)
        refine lv_iload hx hb dX4_decompress_220 (lv_at hl 0 rfl) ?_
        refine lv_iload hx hb dX4_decompress_222 (lv_at hl 5 rfl) ?_
        refine n_icmp_le (tgt := 235) hx hb dX4_decompress_224 (by decide) (by omega) (by omega) (fun c__8 => ?_) (fun c__8 => (by exfalso; omega))
        refine lv_iload hx hb dX4_decompress_235 (lv_at hl 6 rfl) ?_
        refine lv_iload hx hb dX4_decompress_237 (lv_at hl 9 rfl) ?_
        refine n_iadd hx hb dX4_decompress_239 ?_
        refine lv_iload hx hb dX4_decompress_240 (lv_at hl 4 rfl) ?_
        refine n_icmp_eq (tgt := 255) hx hb dX4_decompress_242 (by decide) (by omega) (by omega) (fun c__9 => ?_) (fun c__9 => (by exfalso; omega))
        refine lv_aload_n hx hb dX4_decompress_255 rfl (lv_at hl 1 rfl) ?_
        refine lv_iload hx hb dX4_decompress_256 (lv_at hl 6 rfl) ?_
        refine lv_aload hx hb dX4_decompress_258 (lv_at hl 2 rfl) ?_
        refine lv_iload hx hb dX4_decompress_260 (lv_at hl 7 rfl) ?_
        refine lv_iload hx hb dX4_decompress_262 (lv_at hl 9 rfl) ?_
        refine n_callv (va_runS (As := [.ref b0, .int (nI p2), .ref a0, .int (nI s1), .int (nI L)]) (rest := []) ⟨hx, hb, hml, hown, hts⟩ (mt_safeCopy l D cl b0 d1 16464 f a0 d0 16384 h p2 s1 L (by omega) (by omega) (by omega) (by omega) hf hh H.size) (va_cwS 5 hts (lw_S q355 q356 q19 q357) rfl rfl rfl (by decide +kernel) ⟨Nat.le_of_ble_eq_true rfl, Nat.le_of_ble_eq_true rfl⟩) (pcW_pre (hP.sub [0, 1] rfl) (hK.sub [0, 1] rfl) (hD.sub [0, 1] (by decide) rfl)) rfl rfl hl.1 rfl (lv_room (Nat.le_of_ble_eq_true rfl)) dX4_decompress_264 ⟨Nat.le_of_ble_eq_true rfl, Nat.le_of_ble_eq_true rfl⟩) hP hD hS hA [0, 1] rfl (fun _ => rfl) (fun h2 H locs hw hP hD hS => ?_)
        have hP : va_P D cl [(b0, .inl (d1, 16464, .inl f)), (a0, .inl (d0, 16384, .inl h2))] H := hP
        have hD : va_D A [(b0, .inl (d1, 16464, .inl f)), (a0, .inl (d0, 16384, .inl h2))] := hD
        obtain ⟨hw1, hw2, hw3⟩ := hw
        refine lv_iload hx hb dX4_decompress_267 (lv_at hl 6 rfl) ?_
        refine lv_iload hx hb dX4_decompress_269 (lv_at hl 9 rfl) ?_
        refine n_iadd hx hb dX4_decompress_271 ?_
        refine lv_istore (lv' := [(9, .int (nI (p2 + L))), (13, .int (nI (s1 + L))), (1, .ref b0), (4, .ref a0), (5, .int (nI 0)), (7, .int (nI e9)), (8, .int (nI 16384)), (10, .int (nI s1)), (11, .int (nI (m15 L * 16 + mm))), (12, .int (nI L))]) hx hb dX4_decompress_272 hl (by decide) rfl (fun ls hl => ?_)
        refine lv_iload hx hb dX4_decompress_274 (lv_at hl 1 rfl) ?_
        refine lv_istore (lv' := [(10, .int (nI (s1 + L))), (9, .int (nI (p2 + L))), (13, .int (nI (s1 + L))), (1, .ref b0), (4, .ref a0), (5, .int (nI 0)), (7, .int (nI e9)), (8, .int (nI 16384)), (11, .int (nI (m15 L * 16 + mm))), (12, .int (nI L))]) hx hb dX4_decompress_276 hl (by decide) rfl (fun ls hl => ?_)
        refine lv_goto (tgt := 534) hx hb dX4_decompress_278 (by decide) ?_
        refine lv_iload hx hb dX4_decompress_534 (lv_at hl 0 rfl) ?_
        refine lv_iload hx hb dX4_decompress_536 (lv_at hl 5 rfl) ?_
        refine n_isub hx hb dX4_decompress_538 (by omega) ?_
        refine n_top (b := n) (by omega) ?_
        have hpost : ∀ j : Nat, j < n → h2 j = sr j := by
          intro j hj
          rcases Nat.lt_or_ge j s1 with h9 | h9
          · rw [hw1 j h9]; exact hsr j h9
          · have h8 := hw2 (j - s1) (by omega)
            rw [show s1 + (j - s1) = j by omega, hp2, hlit _ (by omega), show s1 + (j - s1) = j by omega] at h8; exact h8
        exact W.iret (v := nI n) hx hb hr (fun t ht hW => ⟨⟨nI n, h2, rfl, ⟨rfl, hpost, hw3⟩, n_hP ht hP⟩, hS.F ht⟩) hS.2.2 dX4_decompress_539
    · subst hk1
      have hroom := hz2.room hst.le.2.2
      obtain ⟨-, -, -, ho1, ho2, hextM, ⟨hoff1, hoff2, hoff3⟩, hmatch, hs3, hp3, hs12, hs5⟩ := id hst
      rw [← hp2] at ho1 ho2 hextM hp3
      have henM := enc_le M
      rw [if_neg (by omega)] at hr2
      subst hr2
      refine lv_if_ne (tgt := 220) hx hb dX4_decompress_201 (by decide) (fun c__10 => absurd rfl c__10) (fun c__10 => ?_)
      refine lv_iload hx hb dX4_decompress_204 (lv_at hl 4 rfl) ?_
      refine lv_iload hx hb dX4_decompress_206 (lv_at hl 6 rfl) ?_
      refine n_isub hx hb dX4_decompress_208 (by omega) ?_
      refine lv_bipush (v := nI 8) hx hb dX4_decompress_209 (by decide +kernel) ?_
      refine lv_iload hx hb dX4_decompress_211 (lv_at hl 9 rfl) ?_
      refine n_iadd hx hb dX4_decompress_213 ?_
      refine vp_callSi (W.runS (As := [.int (nI (e9 - p2)), .int (nI (8 + L))]) (rest := []) ⟨hx, hb, hml, hown, hts⟩ (mt_notEnough l D cl (e9 - p2) (8 + L) (by omega) (by omega)) (va_cwS 2 hts (lw_S q353 q267 q18 q268) rfl rfl rfl (by decide +kernel) ⟨Nat.le_of_ble_eq_true rfl, Nat.le_of_ble_eq_true rfl⟩) (pcR_pre (hP.sub [] rfl) (hK.sub [] rfl)) rfl rfl hl.1 rfl (lv_room (Nat.le_of_ble_eq_true rfl)) dX4_decompress_214 ⟨Nat.le_of_ble_eq_true rfl, Nat.le_of_ble_eq_true rfl⟩) (fun r3 hr3 => ?_)
      rw [if_neg (by omega)] at hr3
      subst hr3
      refine lv_if_eq (tgt := 281) hx hb dX4_decompress_217 (by decide) (fun c__11 => ?_) (fun c__11 => absurd rfl c__11)
      refine lv_aload_n hx hb dX4_decompress_281 rfl (lv_at hl 1 rfl) ?_
      refine lv_iload hx hb dX4_decompress_282 (lv_at hl 6 rfl) ?_
      refine lv_aload hx hb dX4_decompress_284 (lv_at hl 2 rfl) ?_
      refine lv_iload hx hb dX4_decompress_286 (lv_at hl 7 rfl) ?_
      refine lv_iload hx hb dX4_decompress_288 (lv_at hl 9 rfl) ?_
      refine n_callv (vx_runSW (As := [.ref b0, .int (nI p2), .ref a0, .int (nI s1), .int (nI L)]) (rest := []) ⟨hx, hb, hml, hown, hts⟩ (mt_wildCopy l D cl b0 d1 16464 f a0 d0 16384 h p2 s1 L (by omega) (by omega) (by omega) (by omega) hf hh H.size) (vx_cwSW 5 hts (lw_SW q358 q279 q19 q280) rfl rfl rfl (by decide +kernel) ⟨Nat.le_of_ble_eq_true rfl, Nat.le_of_ble_eq_true rfl⟩) (pcW_pre (hP.sub [0, 1] rfl) (hK.sub [0, 1] rfl) (hD.sub [0, 1] (by decide) rfl)) rfl rfl hl.1 rfl (lv_room (Nat.le_of_ble_eq_true rfl)) dX4_decompress_290 ⟨Nat.le_of_ble_eq_true rfl, Nat.le_of_ble_eq_true rfl⟩) hP hD hS hA [0, 1] rfl (fun _ => rfl) (fun h2 H locs hw hP hD hS => ?_)
      have hP : va_P D cl [(b0, .inl (d1, 16464, .inl f)), (a0, .inl (d0, 16384, .inl h2))] H := hP
      have hD : va_D A [(b0, .inl (d1, 16464, .inl f)), (a0, .inl (d0, 16384, .inl h2))] := hD
      obtain ⟨hw1, hw2, hw3⟩ := hw
      have hsr2 : ∀ j : Nat, j < s1 + L → h2 j = sr j := by
        intro j hj
        rcases Nat.lt_or_ge j s1 with h9 | h9
        · rw [hw1 j h9]; exact hsr j h9
        · have h8 := hw2 (j - s1) (by omega)
          rw [show s1 + (j - s1) = j by omega, hp2, hlit _ (by omega), show s1 + (j - s1) = j by omega] at h8; exact h8
      refine lv_iload hx hb dX4_decompress_293 (lv_at hl 6 rfl) ?_
      refine lv_iload hx hb dX4_decompress_295 (lv_at hl 9 rfl) ?_
      refine n_iadd hx hb dX4_decompress_297 ?_
      refine lv_istore (lv' := [(9, .int (nI (p2 + L))), (13, .int (nI (s1 + L))), (1, .ref b0), (4, .ref a0), (5, .int (nI 0)), (7, .int (nI e9)), (8, .int (nI 16384)), (10, .int (nI s1)), (11, .int (nI (m15 L * 16 + mm))), (12, .int (nI L))]) hx hb dX4_decompress_298 hl (by decide) rfl (fun ls hl => ?_)
      refine lv_iload hx hb dX4_decompress_300 (lv_at hl 1 rfl) ?_
      refine lv_istore (lv' := [(10, .int (nI (s1 + L))), (9, .int (nI (p2 + L))), (13, .int (nI (s1 + L))), (1, .ref b0), (4, .ref a0), (5, .int (nI 0)), (7, .int (nI e9)), (8, .int (nI 16384)), (11, .int (nI (m15 L * 16 + mm))), (12, .int (nI L))]) hx hb dX4_decompress_302 hl (by decide) rfl (fun ls hl => ?_)
      refine lv_aload_n hx hb dX4_decompress_304 rfl (lv_at hl 3 rfl) ?_
      refine lv_iload hx hb dX4_decompress_305 (lv_at hl 1 rfl) ?_
      refine vp_callSi (W.runS (As := [.ref b0, .int (nI (p2 + L))]) (rest := []) ⟨hx, hb, hml, hown, hts⟩ (mt_readShortLE l D cl b0 d1 16464 f (p2 + L) off (by omega) (by omega) hoff3 ho1 ho2) (va_cwS 2 hts (lw_S q359 q360 q10 q361) rfl rfl rfl (by decide +kernel) ⟨Nat.le_of_ble_eq_true rfl, Nat.le_of_ble_eq_true rfl⟩) (pcR_pre (hP.sub [0] rfl) (hK.sub [0] rfl)) rfl rfl hl.1 rfl (lv_room (Nat.le_of_ble_eq_true rfl)) dX4_decompress_307 ⟨Nat.le_of_ble_eq_true rfl, Nat.le_of_ble_eq_true rfl⟩) (fun r4 hr4 => ?_)
      subst hr4
      refine lv_istore (lv' := [(14, .int (nI off)), (10, .int (nI (s1 + L))), (9, .int (nI (p2 + L))), (13, .int (nI (s1 + L))), (1, .ref b0), (4, .ref a0), (5, .int (nI 0)), (7, .int (nI e9)), (8, .int (nI 16384)), (11, .int (nI (m15 L * 16 + mm))), (12, .int (nI L))]) hx hb dX4_decompress_310 hl (by decide) rfl (fun ls hl => ?_)
      refine lv_iinc (v := nI ((p2 + L) + 2)) (lv' := [(9, .int (nI ((p2 + L) + 2))), (14, .int (nI off)), (10, .int (nI (s1 + L))), (13, .int (nI (s1 + L))), (1, .ref b0), (4, .ref a0), (5, .int (nI 0)), (7, .int (nI e9)), (8, .int (nI 16384)), (11, .int (nI (m15 L * 16 + mm))), (12, .int (nI L))]) hx hb dX4_decompress_312 hl (k := 2) rfl (n_inc _ 2 (by decide +kernel)) (by decide) rfl (fun ls hl => ?_)
      refine lv_iload hx hb dX4_decompress_315 (lv_at hl 2 rfl) ?_
      refine lv_iload hx hb dX4_decompress_317 (lv_at hl 1 rfl) ?_
      refine n_isub hx hb dX4_decompress_319 (by omega) ?_
      refine lv_istore (lv' := [(15, .int (nI ((s1 + L) - off))), (9, .int (nI ((p2 + L) + 2))), (14, .int (nI off)), (10, .int (nI (s1 + L))), (13, .int (nI (s1 + L))), (1, .ref b0), (4, .ref a0), (5, .int (nI 0)), (7, .int (nI e9)), (8, .int (nI 16384)), (11, .int (nI (m15 L * 16 + mm))), (12, .int (nI L))]) hx hb dX4_decompress_320 hl (by decide) rfl (fun ls hl => ?_)
      refine lv_iload hx hb dX4_decompress_322 (lv_at hl 0 rfl) ?_
      refine lv_iload hx hb dX4_decompress_324 (lv_at hl 7 rfl) ?_
      refine n_icmp_ge (tgt := 339) hx hb dX4_decompress_326 (by decide) (by omega) (by omega) (fun c__12 => ?_) (fun c__12 => (by exfalso; omega))
      refine lv_iload hx hb dX4_decompress_339 (lv_at hl 10 rfl) ?_
      refine lv_bipush (v := nI 15) hx hb dX4_decompress_341 (by decide +kernel) ?_
      refine lv_iand hx hb dX4_decompress_343 ?_
      refine n_topI (y := nI ((m15 L * 16 + mm) % 16)) (pk_andN (by omega) 4 (by decide +kernel)) ?_
      refine n_top (b := m15 M) (by omega) ?_
      refine lv_istore (lv' := [(16, .int (nI (m15 M))), (15, .int (nI ((s1 + L) - off))), (9, .int (nI ((p2 + L) + 2))), (14, .int (nI off)), (10, .int (nI (s1 + L))), (13, .int (nI (s1 + L))), (1, .ref b0), (4, .ref a0), (5, .int (nI 0)), (7, .int (nI e9)), (8, .int (nI 16384)), (11, .int (nI (m15 L * 16 + mm))), (12, .int (nI L))]) hx hb dX4_decompress_344 hl (by decide) rfl (fun ls hl => ?_)
      refine lv_iload hx hb dX4_decompress_346 (lv_at hl 0 rfl) ?_
      refine lv_bipush (v := nI 15) hx hb dX4_decompress_348 (by decide +kernel) ?_
      refine n_cut 411 (fun H locs ls cells slots => ∃ p4 : Nat, (p4 = p2 + L + 2 + enc M) ∧ lv_has ls 18 [(4, .ref a0), (5, .int (nI 0)), (1, .ref b0), (7, .int (nI e9)), (8, .int (nI 16384)), (9, .int (nI p4)), (10, .int (nI (s1 + L))), (14, .int (nI off)), (15, .int (nI (s1 + L - off))), (16, .int (nI M))] ∧ va_P D cl [(b0, .inl (d1, 16464, .inl f)), (a0, .inl (d0, 16384, .inl h2))] H ∧ va_D A [(b0, .inl (d1, 16464, .inl f)), (a0, .inl (d0, 16384, .inl h2))] ∧ va_S A s.heap H locs ∧ cells = 0 ∧ slots = 0) ?_ (fun K2 => ?_)
      · clear hl hP hD hS
        intro H locs ls cells slots hI
        obtain ⟨p4, hp4, hl, hP, hD, hS, rfl, rfl⟩ := hI
        refine lv_iinc (v := nI (M + 4)) (lv' := [(16, .int (nI (M + 4))), (4, .ref a0), (5, .int (nI 0)), (1, .ref b0), (7, .int (nI e9)), (8, .int (nI 16384)), (9, .int (nI p4)), (10, .int (nI (s1 + L))), (14, .int (nI off)), (15, .int (nI (s1 + L - off)))]) hx hb dX4_decompress_411 hl (k := 9) rfl (n_inc _ 4 (by decide +kernel)) (by decide) rfl (fun ls hl => ?_)
        refine lv_iload hx hb dX4_decompress_414 (lv_at hl 7 rfl) ?_
        refine lv_iload hx hb dX4_decompress_416 (lv_at hl 0 rfl) ?_
        refine n_iadd hx hb dX4_decompress_418 ?_
        refine lv_istore (lv' := [(17, .int (nI ((s1 + L) + (M + 4)))), (16, .int (nI (M + 4))), (4, .ref a0), (5, .int (nI 0)), (1, .ref b0), (7, .int (nI e9)), (8, .int (nI 16384)), (9, .int (nI p4)), (10, .int (nI (s1 + L))), (14, .int (nI off)), (15, .int (nI (s1 + L - off)))]) hx hb dX4_decompress_419 hl (by decide) rfl (fun ls hl => ?_)
        refine lv_iload hx hb dX4_decompress_421 (lv_at hl 0 rfl) ?_
        refine lv_iload hx hb dX4_decompress_423 (lv_at hl 8 rfl) ?_
        refine n_icmp_ge (tgt := 438) hx hb dX4_decompress_425 (by decide) (by omega) (by omega) (fun c__13 => ?_) (fun c__13 => (by exfalso; omega))
        refine lv_iload hx hb dX4_decompress_438 (lv_at hl 9 rfl) ?_
        refine n_if_ne (tgt := 472) hx hb dX4_decompress_440 (by decide) (by omega) (fun c__14 => ?_) (fun c__14 => (by exfalso; omega))
        refine lv_iload hx hb dX4_decompress_472 (lv_at hl 6 rfl) ?_
        refine lv_iload hx hb dX4_decompress_474 (lv_at hl 0 rfl) ?_
        refine n_isub hx hb dX4_decompress_476 (by omega) ?_
        refine lv_bipush (v := nI 8) hx hb dX4_decompress_477 (by decide +kernel) ?_
        refine vp_callSi (W.runS (As := [.int (nI (16384 - ((s1 + L) + (M + 4)))), .int (nI 8)]) (rest := []) ⟨hx, hb, hml, hown, hts⟩ (mt_notEnough l D cl (16384 - (s1 + L + (M + 4))) 8 (by omega) (by omega)) (va_cwS 2 hts (lw_S q353 q267 q18 q268) rfl rfl rfl (by decide +kernel) ⟨Nat.le_of_ble_eq_true rfl, Nat.le_of_ble_eq_true rfl⟩) (pcR_pre (hP.sub [] rfl) (hK.sub [] rfl)) rfl rfl hl.1 rfl (lv_room (Nat.le_of_ble_eq_true rfl)) dX4_decompress_479 ⟨Nat.le_of_ble_eq_true rfl, Nat.le_of_ble_eq_true rfl⟩) (fun r6 hr6 => ?_)
        refine lv_if_eq (tgt := 516) hx hb dX4_decompress_482 (by decide) (fun c__15 => ?_) (fun c__15 => ?_)
        · have hroom2 : ¬ 16384 - (s1 + L + (M + 4)) < 8 := by
            intro h9
            rw [if_pos h9] at hr6
            rw [hr6] at c__15
            exact absurd c__15 (by decide)
          refine lv_aload hx hb dX4_decompress_516 (lv_at hl 2 rfl) ?_
          refine lv_iload hx hb dX4_decompress_518 (lv_at hl 10 rfl) ?_
          refine lv_iload hx hb dX4_decompress_520 (lv_at hl 8 rfl) ?_
          refine lv_iload hx hb dX4_decompress_522 (lv_at hl 0 rfl) ?_
          refine n_callv (va_runS (As := [.ref a0, .int (nI (s1 + L - off)), .int (nI (s1 + L)), .int (nI ((s1 + L) + (M + 4)))]) (rest := []) ⟨hx, hb, hml, hown, hts⟩ (mt_wildInc l D cl a0 d0 16384 h2 (s1 + L - off) (s1 + L) (s1 + L + (M + 4)) (by omega) (by omega) (by omega) (by omega) hw3 H.size) (va_cwS 4 hts (lw_S q609 q610 q19 q611) rfl rfl rfl (by decide +kernel) ⟨Nat.le_of_ble_eq_true rfl, Nat.le_of_ble_eq_true rfl⟩) (pcW_pre (hP.sub [1] rfl) (hK.sub [1] rfl) (hD.sub [1] (by decide) rfl)) rfl rfl hl.1 rfl (lv_room (Nat.le_of_ble_eq_true rfl)) dX4_decompress_524 ⟨Nat.le_of_ble_eq_true rfl, Nat.le_of_ble_eq_true rfl⟩) hP hD hS hA [1] rfl (fun _ => rfl) (fun h4 H locs hv hP hD hS => ?_)
          have hP : va_P D cl [(b0, .inl (d1, 16464, .inl f)), (a0, .inl (d0, 16384, .inl h4))] H := hP
          have hD : va_D A [(b0, .inl (d1, 16464, .inl f)), (a0, .inl (d0, 16384, .inl h4))] := hD
          obtain ⟨hv1, hv2, hv3⟩ := hv
          refine lv_iload hx hb dX4_decompress_527 (lv_at hl 0 rfl) ?_
          refine lv_istore (lv' := [(10, .int (nI ((s1 + L) + (M + 4)))), (17, .int (nI ((s1 + L) + (M + 4)))), (16, .int (nI (M + 4))), (4, .ref a0), (5, .int (nI 0)), (1, .ref b0), (7, .int (nI e9)), (8, .int (nI 16384)), (9, .int (nI p4)), (14, .int (nI off)), (15, .int (nI (s1 + L - off)))]) hx hb dX4_decompress_529 hl (by decide) rfl (fun ls hl => ?_)
          refine lv_goto (tgt := 64) hx hb dX4_decompress_531 (by decide) ?_
          exact ih k1 (by omega) _ _ _ _ _ ⟨s1 + L + (M + 4), p4, h4, by rw [show s1 + L + (M + 4) = s3 by omega, show p4 = p3 by omega]; exact hz2, copy_ok (q := s1 + L) (so := s1 + L - off) (off := off) (w := M + 4) (fun j hj => by rw [hv1 j hj]; exact hsr2 j hj) (fun i hi => hv2 i (by omega)) (by omega) (by omega) hmatch, hv3, (lv_sub hl [5, 3, 4, 6, 7, 8, 0] rfl), hP, hD, hS, rfl, rfl⟩
        · refine lv_iload hx hb dX4_decompress_485 (lv_at hl 0 rfl) ?_
          refine lv_iload hx hb dX4_decompress_487 (lv_at hl 6 rfl) ?_
          refine n_icmp_le (tgt := 502) hx hb dX4_decompress_489 (by decide) (by omega) (by omega) (fun c__16 => ?_) (fun c__16 => (by exfalso; omega))
          refine lv_aload hx hb dX4_decompress_502 (lv_at hl 2 rfl) ?_
          refine lv_iload hx hb dX4_decompress_504 (lv_at hl 10 rfl) ?_
          refine lv_iload hx hb dX4_decompress_506 (lv_at hl 8 rfl) ?_
          refine lv_iload hx hb dX4_decompress_508 (lv_at hl 1 rfl) ?_
          refine n_callv (va_runS (As := [.ref a0, .int (nI (s1 + L - off)), .int (nI (s1 + L)), .int (nI (M + 4))]) (rest := []) ⟨hx, hb, hml, hown, hts⟩ (mt_safeInc l D cl a0 d0 16384 h2 (s1 + L - off) (s1 + L) (M + 4) (by omega) (by omega) (by omega) hw3 H.size) (va_cwS 4 hts (lw_S q606 q607 q19 q608) rfl rfl rfl (by decide +kernel) ⟨Nat.le_of_ble_eq_true rfl, Nat.le_of_ble_eq_true rfl⟩) (pcW_pre (hP.sub [1] rfl) (hK.sub [1] rfl) (hD.sub [1] (by decide) rfl)) rfl rfl hl.1 rfl (lv_room (Nat.le_of_ble_eq_true rfl)) dX4_decompress_510 ⟨Nat.le_of_ble_eq_true rfl, Nat.le_of_ble_eq_true rfl⟩) hP hD hS hA [1] rfl (fun _ => rfl) (fun h4 H locs hv hP hD hS => ?_)
          have hP : va_P D cl [(b0, .inl (d1, 16464, .inl f)), (a0, .inl (d0, 16384, .inl h4))] H := hP
          have hD : va_D A [(b0, .inl (d1, 16464, .inl f)), (a0, .inl (d0, 16384, .inl h4))] := hD
          obtain ⟨hv1, hv2, hv3⟩ := hv
          refine lv_goto (tgt := 527) hx hb dX4_decompress_513 (by decide) ?_
          refine lv_iload hx hb dX4_decompress_527 (lv_at hl 0 rfl) ?_
          refine lv_istore (lv' := [(10, .int (nI ((s1 + L) + (M + 4)))), (17, .int (nI ((s1 + L) + (M + 4)))), (16, .int (nI (M + 4))), (4, .ref a0), (5, .int (nI 0)), (1, .ref b0), (7, .int (nI e9)), (8, .int (nI 16384)), (9, .int (nI p4)), (14, .int (nI off)), (15, .int (nI (s1 + L - off)))]) hx hb dX4_decompress_529 hl (by decide) rfl (fun ls hl => ?_)
          refine lv_goto (tgt := 64) hx hb dX4_decompress_531 (by decide) ?_
          exact ih k1 (by omega) _ _ _ _ _ ⟨s1 + L + (M + 4), p4, h4, by rw [show s1 + L + (M + 4) = s3 by omega, show p4 = p3 by omega]; exact hz2, copy_ok (q := s1 + L) (so := s1 + L - off) (off := off) (w := M + 4) (fun j hj => by rw [hv1 j hj]; exact hsr2 j hj) hv2 (by omega) (by omega) hmatch, hv3, (lv_sub hl [5, 3, 4, 6, 7, 8, 0] rfl), hP, hD, hS, rfl, rfl⟩
      · have hm16 := m15_le M
        refine n_icmp_ne (tgt := 411) hx hb dX4_decompress_350 (by decide) (by omega) (by omega) (fun c__17 => ?_) (fun c__17 => ?_)
        · have e0 : M < 15 := by
            rcases Nat.lt_or_ge M 15 with h9 | h9
            · exact h9
            · exact absurd (m15_hi (by omega)) c__17
          have e1 := enc_lo e0
          have e2 := m15_lo e0
          rw [e2] at hl
          have hl : lv_has ls 18 [(16, .int (nI M)), (15, .int (nI ((s1 + L) - off))), (9, .int (nI ((p2 + L) + 2))), (14, .int (nI off)), (10, .int (nI (s1 + L))), (13, .int (nI (s1 + L))), (1, .ref b0), (4, .ref a0), (5, .int (nI 0)), (7, .int (nI e9)), (8, .int (nI 16384)), (11, .int (nI (m15 L * 16 + mm))), (12, .int (nI L))] := hl
          exact K2 _ _ _ _ _ ⟨(p2 + L) + 2, by omega, (lv_sub hl [7, 8, 6, 9, 10, 2, 4, 3, 1, 0] rfl), hP, hD, hS, rfl, rfl⟩
        · have e0 : 15 ≤ M := by
            rcases Nat.lt_or_ge M 15 with h9 | h9
            · have h8 := m15_lo h9
              omega
            · exact h9
          have e1 := enc_hi (v := M) (by omega)
          have e2 := m15_hi (v := M) (by omega)
          obtain ⟨hx1, hx2⟩ := hextM e0
          refine lv_iconst (v := -1) hx hb dX4_decompress_353 (by decide +kernel) ?_
          refine n_topI (y := by8 255) by8_m1.symm ?_
          refine lv_istore (lv' := [(17, .int (by8 255)), (16, .int (nI (m15 M))), (15, .int (nI ((s1 + L) - off))), (9, .int (nI ((p2 + L) + 2))), (14, .int (nI off)), (10, .int (nI (s1 + L))), (13, .int (nI (s1 + L))), (1, .ref b0), (4, .ref a0), (5, .int (nI 0)), (7, .int (nI e9)), (8, .int (nI 16384)), (11, .int (nI (m15 L * 16 + mm))), (12, .int (nI L))]) hx hb dX4_decompress_354 hl (by decide) rfl (fun ls hl => ?_)
          have hl : lv_has ls 18 [(15, .int (nI ((s1 + L) - off))), (14, .int (nI off)), (10, .int (nI (s1 + L))), (13, .int (nI (s1 + L))), (1, .ref b0), (4, .ref a0), (5, .int (nI 0)), (7, .int (nI e9)), (8, .int (nI 16384)), (11, .int (nI (m15 L * 16 + mm))), (12, .int (nI L)), (16, .int (nI 15)), (17, .int (by8 255)), (9, .int (nI ((p2 + L) + 2)))] := by
            have h9 := lv_sub hl [2, 4, 5, 6, 7, 8, 9, 10, 11, 12, 13, 1, 0, 3] rfl
            unfold lv_pick at h9; rw [e2] at h9; exact h9
          refine n_loopAt 356 (fun n9 H locs ls cells slots => ∃ i : Nat, ∃ x : Nat, ∃ y : Nat, (n9 = (M - 15) / 255 - i) ∧ (i ≤ (M - 15) / 255) ∧ (x = p2 + L + 2 + i) ∧ (y = 15 + 255 * i) ∧ lv_has ls 18 [(15, .int (nI ((s1 + L) - off))), (14, .int (nI off)), (10, .int (nI (s1 + L))), (13, .int (nI (s1 + L))), (1, .ref b0), (4, .ref a0), (5, .int (nI 0)), (7, .int (nI e9)), (8, .int (nI 16384)), (11, .int (nI (m15 L * 16 + mm))), (12, .int (nI L)), (16, .int (nI y)), (17, .int (by8 255)), (9, .int (nI x))] ∧ va_P D cl [(b0, .inl (d1, 16464, .inl f)), (a0, .inl (d0, 16384, .inl h2))] H ∧ va_D A [(b0, .inl (d1, 16464, .inl f)), (a0, .inl (d0, 16384, .inl h2))] ∧ va_S A s.heap H locs ∧ cells = 0 ∧ slots = 0) ((M - 15) / 255) ⟨0, (p2 + L) + 2, 15, rfl, by omega, by omega, rfl, hl, hP, hD, hS, rfl, rfl⟩ ?_
          clear hl hP hD hS
          intro n5 ih5 H locs ls cells slots hI
          obtain ⟨i, x, y, hn5, hi, hxx, hy, hl, hP, hD, hS, rfl, rfl⟩ := hI
          refine lv_iload hx hb dX4_decompress_356 (lv_at hl 13 rfl) ?_
          refine lv_iload hx hb dX4_decompress_358 (lv_at hl 7 rfl) ?_
          refine n_icmp_ge (tgt := 400) hx hb dX4_decompress_360 (by decide) (by omega) (by omega) (fun c__18 => (by exfalso; omega)) (fun c__18 => ?_)
          refine lv_aload_n hx hb dX4_decompress_363 rfl (lv_at hl 4 rfl) ?_
          refine lv_iload hx hb dX4_decompress_364 (lv_at hl 13 rfl) ?_
          refine lv_iinc (v := nI (x + 1)) (lv' := [(9, .int (nI (x + 1))), (15, .int (nI ((s1 + L) - off))), (14, .int (nI off)), (10, .int (nI (s1 + L))), (13, .int (nI (s1 + L))), (1, .ref b0), (4, .ref a0), (5, .int (nI 0)), (7, .int (nI e9)), (8, .int (nI 16384)), (11, .int (nI (m15 L * 16 + mm))), (12, .int (nI L)), (16, .int (nI y)), (17, .int (by8 255))]) hx hb dX4_decompress_366 hl (k := 13) rfl (n_inc _ 1 (by decide +kernel)) (by decide) rfl (fun ls hl => ?_)
          refine vp_callSi (W.runS (As := [.ref b0, .int (nI x)]) (rest := []) ⟨hx, hb, hml, hown, hts⟩ (mt_readByte l D cl b0 d1 16464 f x (by omega) (by omega) (hf _)) (va_cwS 2 hts (lw_S q347 q301 q10 q302) rfl rfl rfl (by decide +kernel) ⟨Nat.le_of_ble_eq_true rfl, Nat.le_of_ble_eq_true rfl⟩) (pcR_pre (hP.sub [0] rfl) (hK.sub [0] rfl)) rfl rfl hl.1 rfl (lv_room (Nat.le_of_ble_eq_true rfl)) dX4_decompress_369 ⟨Nat.le_of_ble_eq_true rfl, Nat.le_of_ble_eq_true rfl⟩) (fun r5 hr5 => ?_)
          rcases Nat.lt_or_ge i ((M - 15) / 255) with h5 | h5
          · rw [hxx, hx1 i h5] at hr5
            subst hr5
            refine lv_dup hx hb dX4_decompress_372 rfl ?_
            refine lv_istore (lv' := [(17, .int (by8 255)), (9, .int (nI (x + 1))), (15, .int (nI ((s1 + L) - off))), (14, .int (nI off)), (10, .int (nI (s1 + L))), (13, .int (nI (s1 + L))), (1, .ref b0), (4, .ref a0), (5, .int (nI 0)), (7, .int (nI e9)), (8, .int (nI 16384)), (11, .int (nI (m15 L * 16 + mm))), (12, .int (nI L)), (16, .int (nI y))]) hx hb dX4_decompress_373 hl (by decide) rfl (fun ls hl => ?_)
            refine lv_iconst (v := -1) hx hb dX4_decompress_375 (by decide +kernel) ?_
            refine lv_icmp_ne (tgt := 400) hx hb dX4_decompress_376 (by decide) (fun c__19 => absurd by8_m1 c__19) (fun c__19 => ?_)
            refine lv_iincW (v := nI (y + 255)) (lv' := [(16, .int (nI (y + 255))), (17, .int (by8 255)), (9, .int (nI (x + 1))), (15, .int (nI ((s1 + L) - off))), (14, .int (nI off)), (10, .int (nI (s1 + L))), (13, .int (nI (s1 + L))), (1, .ref b0), (4, .ref a0), (5, .int (nI 0)), (7, .int (nI e9)), (8, .int (nI 16384)), (11, .int (nI (m15 L * 16 + mm))), (12, .int (nI L))]) hx hb dX4_decompress_379 hl (k := 13) rfl (n_inc _ 255 (by decide +kernel)) (by decide) rfl (fun ls hl => ?_)
            refine lv_iload hx hb dX4_decompress_385 (lv_at hl 0 rfl) ?_
            refine n_if_ge (tgt := 356) hx hb dX4_decompress_387 (by decide) (by omega) ?_
            exact ih5 ((M - 15) / 255 - (i + 1)) (by omega) _ _ _ _ _ ⟨i + 1, x + 1, y + 255, rfl, by omega, by omega, by omega, (lv_sub hl [3, 4, 5, 6, 7, 8, 9, 10, 11, 12, 13, 0, 1, 2] rfl), hP, hD, hS, rfl, rfl⟩
          · have h6 : i = (M - 15) / 255 := by omega
            rw [hxx, h6, hx2] at hr5
            subst hr5
            refine lv_dup hx hb dX4_decompress_372 rfl ?_
            refine lv_istore (lv' := [(17, .int (by8 ((M - 15) % 255))), (9, .int (nI (x + 1))), (15, .int (nI ((s1 + L) - off))), (14, .int (nI off)), (10, .int (nI (s1 + L))), (13, .int (nI (s1 + L))), (1, .ref b0), (4, .ref a0), (5, .int (nI 0)), (7, .int (nI e9)), (8, .int (nI 16384)), (11, .int (nI (m15 L * 16 + mm))), (12, .int (nI L)), (16, .int (nI y))]) hx hb dX4_decompress_373 hl (by decide) rfl (fun ls hl => ?_)
            refine lv_iconst (v := -1) hx hb dX4_decompress_375 (by decide +kernel) ?_
            refine lv_icmp_ne (tgt := 400) hx hb dX4_decompress_376 (by decide) (fun c__21 => ?_) (fun c__21 => absurd c__21 (by8_lt _ (by omega)))
            refine lv_iload hx hb dX4_decompress_400 (lv_at hl 13 rfl) ?_
            refine lv_iload hx hb dX4_decompress_402 (lv_at hl 0 rfl) ?_
            refine lv_sipush (v := nI 255) hx hb dX4_decompress_404 (by decide +kernel) ?_
            refine lv_iand hx hb dX4_decompress_407 ?_
            refine n_topI (y := nI ((M - 15) % 255)) (by8_255 _ (by omega)) ?_
            refine n_iadd hx hb dX4_decompress_408 ?_
            refine n_top (b := M) (by omega) ?_
            refine lv_istore (lv' := [(16, .int (nI M)), (17, .int (by8 ((M - 15) % 255))), (9, .int (nI (x + 1))), (15, .int (nI ((s1 + L) - off))), (14, .int (nI off)), (10, .int (nI (s1 + L))), (13, .int (nI (s1 + L))), (1, .ref b0), (4, .ref a0), (5, .int (nI 0)), (7, .int (nI e9)), (8, .int (nI 16384)), (11, .int (nI (m15 L * 16 + mm))), (12, .int (nI L))]) hx hb dX4_decompress_409 hl (by decide) rfl (fun ls hl => ?_)
            exact K2 _ _ _ _ _ ⟨x + 1, by omega, (lv_sub hl [8, 9, 7, 10, 11, 2, 5, 4, 3, 0] rfl), hP, hD, hS, rfl, rfl⟩
  · refine n_icmp_ne (tgt := 167) hx hb dX4_decompress_106 (by decide) (by omega) (by omega) (fun c__22 => ?_) (fun c__22 => ?_)
    · have e0 : L < 15 := by
        rcases Nat.lt_or_ge L 15 with h9 | h9
        · exact h9
        · exact absurd (m15_hi (by omega)) c__22
      have e1 := enc_lo e0
      have e2 := m15_lo e0
      rw [e2] at hl
      have hl : lv_has ls 18 [(12, .int (nI L)), (9, .int (nI (p1 + 1))), (11, .int (nI (L * 16 + mm))), (1, .ref b0), (4, .ref a0), (5, .int (nI 0)), (7, .int (nI e9)), (8, .int (nI 16384)), (10, .int (nI s1))] := hl
      have hl : lv_has ls 18 [(12, .int (nI L)), (9, .int (nI (p1 + 1))), (11, .int (nI (m15 L * 16 + mm))), (1, .ref b0), (4, .ref a0), (5, .int (nI 0)), (7, .int (nI e9)), (8, .int (nI 16384)), (10, .int (nI s1))] := by rw [e2]; exact hl
      exact K _ _ _ _ _ ⟨p1 + 1, by omega, (lv_sub hl [3, 4, 5, 6, 7, 1, 8, 2, 0] rfl), hP, hD, hS, rfl, rfl⟩
    · have e0 : 15 ≤ L := by
        rcases Nat.lt_or_ge L 15 with h9 | h9
        · have h8 := m15_lo h9
          omega
        · exact h9
      have e1 := enc_hi (v := L) (by omega)
      have e2 := m15_hi (v := L) (by omega)
      obtain ⟨hx1, hx2⟩ := hext e0
      refine lv_iconst (v := -1) hx hb dX4_decompress_109 (by decide +kernel) ?_
      refine n_topI (y := by8 255) by8_m1.symm ?_
      refine lv_istore (lv' := [(13, .int (by8 255)), (12, .int (nI (m15 L))), (9, .int (nI (p1 + 1))), (11, .int (nI (m15 L * 16 + mm))), (1, .ref b0), (4, .ref a0), (5, .int (nI 0)), (7, .int (nI e9)), (8, .int (nI 16384)), (10, .int (nI s1))]) hx hb dX4_decompress_110 hl (by decide) rfl (fun ls hl => ?_)
      have hl : lv_has ls 18 [(11, .int (nI (m15 L * 16 + mm))), (1, .ref b0), (4, .ref a0), (5, .int (nI 0)), (7, .int (nI e9)), (8, .int (nI 16384)), (10, .int (nI s1)), (12, .int (nI 15)), (13, .int (by8 255)), (9, .int (nI (p1 + 1)))] := by
        have h9 := lv_sub hl [3, 4, 5, 6, 7, 8, 9, 1, 0, 2] rfl
        rw [show (15 : Nat) = m15 L from e2.symm]; exact h9
      refine n_loopAt 112 (fun n9 H locs ls cells slots => ∃ i : Nat, ∃ x : Nat, ∃ y : Nat, (n9 = (L - 15) / 255 - i) ∧ (i ≤ (L - 15) / 255) ∧ (x = p1 + 1 + i) ∧ (y = 15 + 255 * i) ∧ lv_has ls 18 [(11, .int (nI (m15 L * 16 + mm))), (1, .ref b0), (4, .ref a0), (5, .int (nI 0)), (7, .int (nI e9)), (8, .int (nI 16384)), (10, .int (nI s1)), (12, .int (nI y)), (13, .int (by8 255)), (9, .int (nI x))] ∧ va_P D cl [(b0, .inl (d1, 16464, .inl f)), (a0, .inl (d0, 16384, .inl h))] H ∧ va_D A [(b0, .inl (d1, 16464, .inl f)), (a0, .inl (d0, 16384, .inl h))] ∧ va_S A s.heap H locs ∧ cells = 0 ∧ slots = 0) ((L - 15) / 255) ⟨0, p1 + 1, 15, rfl, by omega, by omega, rfl, hl, hP, hD, hS, rfl, rfl⟩ ?_
      clear hl hP hD hS
      intro n5 ih5 H locs ls cells slots hI
      obtain ⟨i, x, y, hn5, hi, hxx, hy, hl, hP, hD, hS, rfl, rfl⟩ := hI
      refine lv_iload hx hb dX4_decompress_112 (lv_at hl 9 rfl) ?_
      refine lv_iload hx hb dX4_decompress_114 (lv_at hl 4 rfl) ?_
      refine n_icmp_ge (tgt := 156) hx hb dX4_decompress_116 (by decide) (by omega) (by omega) (fun c__23 => (by exfalso; omega)) (fun c__23 => ?_)
      refine lv_aload_n hx hb dX4_decompress_119 rfl (lv_at hl 1 rfl) ?_
      refine lv_iload hx hb dX4_decompress_120 (lv_at hl 9 rfl) ?_
      refine lv_iinc (v := nI (x + 1)) (lv' := [(9, .int (nI (x + 1))), (11, .int (nI (m15 L * 16 + mm))), (1, .ref b0), (4, .ref a0), (5, .int (nI 0)), (7, .int (nI e9)), (8, .int (nI 16384)), (10, .int (nI s1)), (12, .int (nI y)), (13, .int (by8 255))]) hx hb dX4_decompress_122 hl (k := 9) rfl (n_inc _ 1 (by decide +kernel)) (by decide) rfl (fun ls hl => ?_)
      refine vp_callSi (W.runS (As := [.ref b0, .int (nI x)]) (rest := []) ⟨hx, hb, hml, hown, hts⟩ (mt_readByte l D cl b0 d1 16464 f x (by omega) (by omega) (hf _)) (va_cwS 2 hts (lw_S q347 q301 q10 q302) rfl rfl rfl (by decide +kernel) ⟨Nat.le_of_ble_eq_true rfl, Nat.le_of_ble_eq_true rfl⟩) (pcR_pre (hP.sub [0] rfl) (hK.sub [0] rfl)) rfl rfl hl.1 rfl (lv_room (Nat.le_of_ble_eq_true rfl)) dX4_decompress_125 ⟨Nat.le_of_ble_eq_true rfl, Nat.le_of_ble_eq_true rfl⟩) (fun r5 hr5 => ?_)
      rcases Nat.lt_or_ge i ((L - 15) / 255) with h5 | h5
      · rw [hxx, hx1 i h5] at hr5
        subst hr5
        refine lv_dup hx hb dX4_decompress_128 rfl ?_
        refine lv_istore (lv' := [(13, .int (by8 255)), (9, .int (nI (x + 1))), (11, .int (nI (m15 L * 16 + mm))), (1, .ref b0), (4, .ref a0), (5, .int (nI 0)), (7, .int (nI e9)), (8, .int (nI 16384)), (10, .int (nI s1)), (12, .int (nI y))]) hx hb dX4_decompress_129 hl (by decide) rfl (fun ls hl => ?_)
        refine lv_iconst (v := -1) hx hb dX4_decompress_131 (by decide +kernel) ?_
        refine lv_icmp_ne (tgt := 156) hx hb dX4_decompress_132 (by decide) (fun c__24 => absurd by8_m1 c__24) (fun c__24 => ?_)
        refine lv_iincW (v := nI (y + 255)) (lv' := [(12, .int (nI (y + 255))), (13, .int (by8 255)), (9, .int (nI (x + 1))), (11, .int (nI (m15 L * 16 + mm))), (1, .ref b0), (4, .ref a0), (5, .int (nI 0)), (7, .int (nI e9)), (8, .int (nI 16384)), (10, .int (nI s1))]) hx hb dX4_decompress_135 hl (k := 9) rfl (n_inc _ 255 (by decide +kernel)) (by decide) rfl (fun ls hl => ?_)
        refine lv_iload hx hb dX4_decompress_141 (lv_at hl 0 rfl) ?_
        refine n_if_ge (tgt := 112) hx hb dX4_decompress_143 (by decide) (by omega) ?_
        exact ih5 ((L - 15) / 255 - (i + 1)) (by omega) _ _ _ _ _ ⟨i + 1, x + 1, y + 255, rfl, by omega, by omega, by omega, (lv_sub hl [3, 4, 5, 6, 7, 8, 9, 0, 1, 2] rfl), hP, hD, hS, rfl, rfl⟩
      · have h6 : i = (L - 15) / 255 := by omega
        rw [hxx, h6, hx2] at hr5
        subst hr5
        refine lv_dup hx hb dX4_decompress_128 rfl ?_
        refine lv_istore (lv' := [(13, .int (by8 ((L - 15) % 255))), (9, .int (nI (x + 1))), (11, .int (nI (m15 L * 16 + mm))), (1, .ref b0), (4, .ref a0), (5, .int (nI 0)), (7, .int (nI e9)), (8, .int (nI 16384)), (10, .int (nI s1)), (12, .int (nI y))]) hx hb dX4_decompress_129 hl (by decide) rfl (fun ls hl => ?_)
        refine lv_iconst (v := -1) hx hb dX4_decompress_131 (by decide +kernel) ?_
        refine lv_icmp_ne (tgt := 156) hx hb dX4_decompress_132 (by decide) (fun c__26 => ?_) (fun c__26 => absurd c__26 (by8_lt _ (by omega)))
        refine lv_iload hx hb dX4_decompress_156 (lv_at hl 9 rfl) ?_
        refine lv_iload hx hb dX4_decompress_158 (lv_at hl 0 rfl) ?_
        refine lv_sipush (v := nI 255) hx hb dX4_decompress_160 (by decide +kernel) ?_
        refine lv_iand hx hb dX4_decompress_163 ?_
        refine n_topI (y := nI ((L - 15) % 255)) (by8_255 _ (by omega)) ?_
        refine n_iadd hx hb dX4_decompress_164 ?_
        refine n_top (b := L) (by omega) ?_
        refine lv_istore (lv' := [(12, .int (nI L)), (13, .int (by8 ((L - 15) % 255))), (9, .int (nI (x + 1))), (11, .int (nI (m15 L * 16 + mm))), (1, .ref b0), (4, .ref a0), (5, .int (nI 0)), (7, .int (nI e9)), (8, .int (nI 16384)), (10, .int (nI s1))]) hx hb dX4_decompress_165 hl (by decide) rfl (fun ls hl => ?_)
        exact K _ _ _ _ _ ⟨x + 1, by omega, (lv_sub hl [4, 5, 6, 7, 8, 2, 9, 3, 0] rfl), hP, hD, hS, rfl, rfl⟩
end
section
/-! size, trim, opened, fill, repeat of both classes -/
def TZ9 : u_T := fun _ => ("", "", "", false)
abbrev vwCl : List vw_C := [(RX0, TX0, 8), (RX5, TX5, 6), (RX2, TZ9, 0), (RX4, TZ9, 0)]
def cap (z n : Nat) : Nat := if z + n ≤ 16384 then n else 16384 - z
theorem cap_le {z n : Nat} (hz : z ≤ 16384) : z + cap z n ≤ 16384 ∧ cap z n ≤ n := by
  unfold cap
  split <;> omega
theorem n_mask2 (x : Int32) : x &&& nI 2147483647 = nI (um x) := by
  rw [show nI 2147483647 = 2147483647 by decide +kernel]
  exact n_mask x

set_option maxHeartbeats 4000000 in
set_option maxRecDepth 100000 in
theorem mx_size_x (l : Launch) (D : va_G) (x0 c1 c2 t1 k1 o1 : Nat) (z1 : Nat) (ln : Int32) (bk : Nat) : Met l yX0_size (ws_ yX0_size cX0_size 1 (some .int)) ({ frames := 1, cells := 0, slots := 0, locals := 100 }) (pcR [.ref x0] D vwCl [(x0, .inr (0, [.ref c1, .ref c2, .ref t1, .ref k1, .ref o1, .int (nI z1), .int ln, .int (nI bk)]))] []) (vp_Si (fun r : Int32 => r = nI z1)) 0 0 (fun _ => False) := by
  refine n_metR (by decide) (Nat.le_of_ble_eq_true rfl) ?_
  intro p e s m below meth c hx hb hr hlocks hml hown hin hts hP hK ls hl
  have hown : s.vm.findClass "BlockPacker" = some m.cls := hown
  have hl : lv_has ls 1 [(0, .ref x0)] := hl
  refine lv_aload_n hx hb dX0_size_0 rfl (lv_at hl 0 rfl) ?_
  refine va_get (D := D) (ci := 0) (v := .int (nI z1)) (C := RX0) (T := TX0) (N := 8) hx hb hts in_X0 hown hK hP 0 rfl rfl 5 (by decide) (hts _ q66) (fun _ h9 => h9) rfl dX0_size_1 ?_
  exact W.iret (v := nI z1) hx hb hr (fun t ht hW => ⟨_, rfl, rfl, ht⟩) (fun _ h9 => nomatch h9) dX0_size_4

set_option maxHeartbeats 4000000 in
set_option maxRecDepth 100000 in
theorem mx_size_m (l : Launch) (D : va_G) (x0 t1 k1 o1 : Nat) (z1 : Nat) (ln : Int32) (bk : Nat) : Met l yX5_size (ws_ yX5_size cX5_size 1 (some .int)) ({ frames := 1, cells := 0, slots := 0, locals := 100 }) (pcR [.ref x0] D vwCl [(x0, .inr (1, [.ref t1, .ref k1, .ref o1, .int (nI z1), .int ln, .int (nI bk)]))] []) (vp_Si (fun r : Int32 => r = nI z1)) 0 0 (fun _ => False) := by
  refine n_metR (by decide) (Nat.le_of_ble_eq_true rfl) ?_
  intro p e s m below meth c hx hb hr hlocks hml hown hin hts hP hK ls hl
  have hown : s.vm.findClass "BlockPackerModel" = some m.cls := hown
  have hl : lv_has ls 1 [(0, .ref x0)] := hl
  refine lv_aload_n hx hb dX5_size_0 rfl (lv_at hl 0 rfl) ?_
  refine va_get (D := D) (ci := 1) (v := .int (nI z1)) (C := RX5) (T := TX5) (N := 6) hx hb hts in_X5 hown hK hP 0 rfl rfl 3 (by decide) (hts _ q629) (fun _ h9 => h9) rfl dX5_size_1 ?_
  exact W.iret (v := nI z1) hx hb hr (fun t ht hW => ⟨_, rfl, rfl, ht⟩) (fun _ h9 => nomatch h9) dX5_size_4

set_option maxHeartbeats 4000000 in
set_option maxRecDepth 100000 in
theorem mx_trim_x (l : Launch) (D : va_G) (x0 c1 c2 t1 k1 o1 : Nat) (z1 : Nat) (ln : Int32) (bk : Nat) (v : Int32) (hz : z1 ≤ 16384) (sz : Nat) : Met l yX0_trim (ws_ yX0_trim cX0_trim 2 (none)) ({ frames := 1, cells := 0, slots := 0, locals := 100 }) (pcW [.ref x0, .int v] D vwCl [(x0, .inr (0, [.ref c1, .ref c2, .ref t1, .ref k1, .ref o1, .int (nI z1), .int ln, .int (nI bk)]))] [] sz) (va_Qv (fun (u : Nat) => u = um v % (z1 + 1)) (fun (u : Nat) t => va_P D vwCl [(x0, .inr (0, [.ref c1, .ref c2, .ref t1, .ref k1, .ref o1, .int (nI u), .int ln, .int (nI bk)]))] t.heap) (va_A [(x0, .inr (0, [.ref c1, .ref c2, .ref t1, .ref k1, .ref o1, .int (nI z1), .int ln, .int (nI bk)]))] sz)) 0 0 (va_A [(x0, .inr (0, [.ref c1, .ref c2, .ref t1, .ref k1, .ref o1, .int (nI z1), .int ln, .int (nI bk)]))] sz) := by
  refine n_metW (Qc := fun A => va_Qv (fun (u : Nat) => u = um v % (z1 + 1)) (fun (u : Nat) t => va_P D vwCl [(x0, .inr (0, [.ref c1, .ref c2, .ref t1, .ref k1, .ref o1, .int (nI u), .int ln, .int (nI bk)]))] t.heap) A) (by decide) (Nat.le_of_ble_eq_true rfl) ?_
  intro p e s m below meth c hx hb hr hlocks hml hown hin hts hP hK A hsz hD hA hS ls hl
  have hown : s.vm.findClass "BlockPacker" = some m.cls := hown
  have hl : lv_has ls 2 [(0, .ref x0), (1, .int v)] := hl
  have hu := um_lt v
  refine lv_aload_n hx hb dX0_trim_0 rfl (lv_at hl 0 rfl) ?_
  refine lv_iload_n hx hb dX0_trim_1 rfl (lv_at hl 1 rfl) ?_
  refine lv_ldc hx hb hown (hts _ q99) dX0_trim_2 ?_
  refine n_topI (show (2147483647 : Int32) = nI 2147483647 by decide +kernel) ?_
  refine lv_iand hx hb dX0_trim_4 ?_
  refine n_topI (y := nI (um v)) (n_mask2 v) ?_
  refine lv_aload_n hx hb dX0_trim_5 rfl (lv_at hl 0 rfl) ?_
  refine va_get (D := D) (ci := 0) (v := .int (nI z1)) (C := RX0) (T := TX0) (N := 8) hx hb hts in_X0 hown hK hP 0 rfl rfl 5 (by decide) (hts _ q66) (fun _ h9 => h9) rfl dX0_trim_6 ?_
  refine lv_iconst (v := nI 1) hx hb dX0_trim_9 (by decide +kernel) ?_
  refine n_iadd hx hb dX0_trim_10 ?_
  refine n_irem hx hb dX0_trim_11 (by omega) (by omega) (by omega) ?_
  refine va_put (D := D) (ci := 0) (v := .int (nI ((um v) % (z1 + 1)))) (ty := .int) (C := RX0) (T := TX0) (N := 8) hx hb hts in_X0 tyX0 tyX0_ok nmX0 hown hK hP hD hS 0 rfl rfl 5 (by decide) (hts _ q66) (fun _ h9 => h9) rfl (by decide +kernel) rfl rfl (Nat.le_of_ble_eq_true rfl) dX0_trim_12 (fun H locs hP hD hS => ?_)
  have hP : va_P D vwCl [(x0, .inr (0, [.ref c1, .ref c2, .ref t1, .ref k1, .ref o1, .int (nI ((um v) % (z1 + 1))), .int ln, .int (nI bk)]))] H := hP
  have hD : va_D A [(x0, .inr (0, [.ref c1, .ref c2, .ref t1, .ref k1, .ref o1, .int (nI ((um v) % (z1 + 1))), .int ln, .int (nI bk)]))] := hD
  exact W.vret hx hb hr (fun t ht hW => ⟨⟨_, rfl, rfl, n_hP ht hP⟩, hS.F ht⟩) hS.2.2 dX0_trim_15

set_option maxHeartbeats 4000000 in
set_option maxRecDepth 100000 in
theorem mx_trim_m (l : Launch) (D : va_G) (x0 t1 k1 o1 : Nat) (z1 : Nat) (ln : Int32) (bk : Nat) (v : Int32) (hz : z1 ≤ 16384) (sz : Nat) : Met l yX5_trim (ws_ yX5_trim cX5_trim 2 (none)) ({ frames := 1, cells := 0, slots := 0, locals := 100 }) (pcW [.ref x0, .int v] D vwCl [(x0, .inr (1, [.ref t1, .ref k1, .ref o1, .int (nI z1), .int ln, .int (nI bk)]))] [] sz) (va_Qv (fun (u : Nat) => u = um v % (z1 + 1)) (fun (u : Nat) t => va_P D vwCl [(x0, .inr (1, [.ref t1, .ref k1, .ref o1, .int (nI u), .int ln, .int (nI bk)]))] t.heap) (va_A [(x0, .inr (1, [.ref t1, .ref k1, .ref o1, .int (nI z1), .int ln, .int (nI bk)]))] sz)) 0 0 (va_A [(x0, .inr (1, [.ref t1, .ref k1, .ref o1, .int (nI z1), .int ln, .int (nI bk)]))] sz) := by
  refine n_metW (Qc := fun A => va_Qv (fun (u : Nat) => u = um v % (z1 + 1)) (fun (u : Nat) t => va_P D vwCl [(x0, .inr (1, [.ref t1, .ref k1, .ref o1, .int (nI u), .int ln, .int (nI bk)]))] t.heap) A) (by decide) (Nat.le_of_ble_eq_true rfl) ?_
  intro p e s m below meth c hx hb hr hlocks hml hown hin hts hP hK A hsz hD hA hS ls hl
  have hown : s.vm.findClass "BlockPackerModel" = some m.cls := hown
  have hl : lv_has ls 2 [(0, .ref x0), (1, .int v)] := hl
  have hu := um_lt v
  refine lv_aload_n hx hb dX5_trim_0 rfl (lv_at hl 0 rfl) ?_
  refine lv_iload_n hx hb dX5_trim_1 rfl (lv_at hl 1 rfl) ?_
  refine lv_ldc hx hb hown (hts _ q653) dX5_trim_2 ?_
  refine n_topI (show (2147483647 : Int32) = nI 2147483647 by decide +kernel) ?_
  refine lv_iand hx hb dX5_trim_4 ?_
  refine n_topI (y := nI (um v)) (n_mask2 v) ?_
  refine lv_aload_n hx hb dX5_trim_5 rfl (lv_at hl 0 rfl) ?_
  refine va_get (D := D) (ci := 1) (v := .int (nI z1)) (C := RX5) (T := TX5) (N := 6) hx hb hts in_X5 hown hK hP 0 rfl rfl 3 (by decide) (hts _ q629) (fun _ h9 => h9) rfl dX5_trim_6 ?_
  refine lv_iconst (v := nI 1) hx hb dX5_trim_9 (by decide +kernel) ?_
  refine n_iadd hx hb dX5_trim_10 ?_
  refine n_irem hx hb dX5_trim_11 (by omega) (by omega) (by omega) ?_
  refine va_put (D := D) (ci := 1) (v := .int (nI ((um v) % (z1 + 1)))) (ty := .int) (C := RX5) (T := TX5) (N := 6) hx hb hts in_X5 tyX5 tyX5_ok nmX5 hown hK hP hD hS 0 rfl rfl 3 (by decide) (hts _ q629) (fun _ h9 => h9) rfl (by decide +kernel) rfl rfl (Nat.le_of_ble_eq_true rfl) dX5_trim_12 (fun H locs hP hD hS => ?_)
  have hP : va_P D vwCl [(x0, .inr (1, [.ref t1, .ref k1, .ref o1, .int (nI ((um v) % (z1 + 1))), .int ln, .int (nI bk)]))] H := hP
  have hD : va_D A [(x0, .inr (1, [.ref t1, .ref k1, .ref o1, .int (nI ((um v) % (z1 + 1))), .int ln, .int (nI bk)]))] := hD
  exact W.vret hx hb hr (fun t ht hW => ⟨⟨_, rfl, rfl, n_hP ht hP⟩, hS.F ht⟩) hS.2.2 dX5_trim_15

set_option maxHeartbeats 4000000 in
set_option maxRecDepth 100000 in
theorem mx_opened_x (l : Launch) (D : va_G) (x0 c1 c2 t1 k1 o1 : Nat) (z1 : Nat) (ln : Int32) (bk : Nat) (d0 : ClassId) (g : Nat → Int32) (v : Int32) (hb : bk ≤ 16384) : Met l yX0_opened (ws_ yX0_opened cX0_opened 2 (some .int)) ({ frames := 1, cells := 0, slots := 0, locals := 100 }) (pcR [.ref x0, .int v] D vwCl [(x0, .inr (0, [.ref c1, .ref c2, .ref t1, .ref k1, .ref o1, .int (nI z1), .int ln, .int (nI bk)])), (o1, .inl (d0, 16384, .inl g))] [(d0, .byte)]) (vp_Si (fun r : Int32 => r = if bk = 0 then -1 else g (um v % bk) &&& 255)) 0 0 (fun _ => False) := by
  refine n_metR (by decide) (Nat.le_of_ble_eq_true rfl) ?_
  intro p e s m below meth c hx hb hr hlocks hml hown hin hts hP hK ls hl
  have hown : s.vm.findClass "BlockPacker" = some m.cls := hown
  have hl : lv_has ls 2 [(0, .ref x0), (1, .int v)] := hl
  have hu := um_lt v
  have hbk := hb
  refine lv_aload_n hx hb dX0_opened_0 rfl (lv_at hl 0 rfl) ?_
  refine va_get (D := D) (ci := 0) (v := .int (nI bk)) (C := RX0) (T := TX0) (N := 8) hx hb hts in_X0 hown hK hP 0 rfl rfl 7 (by decide) (hts _ q68) (fun _ h9 => h9) rfl dX0_opened_1 ?_
  refine n_if_ne (tgt := 11) hx hb dX0_opened_4 (by decide) (by omega) (fun c__1 => ?_) (fun c__1 => ?_)
  · refine lv_aload_n hx hb dX0_opened_11 rfl (lv_at hl 0 rfl) ?_
    refine va_get (D := D) (ci := 0) (v := .ref o1) (C := RX0) (T := TX0) (N := 8) hx hb hts in_X0 hown hK hP 0 rfl rfl 4 (by decide) (hts _ q65) (fun _ h9 => h9) rfl dX0_opened_12 ?_
    refine lv_iload_n hx hb dX0_opened_15 rfl (lv_at hl 1 rfl) ?_
    refine lv_ldc hx hb hown (hts _ q99) dX0_opened_16 ?_
    refine n_topI (show (2147483647 : Int32) = nI 2147483647 by decide +kernel) ?_
    refine lv_iand hx hb dX0_opened_18 ?_
    refine n_topI (y := nI (um v)) (n_mask2 v) ?_
    have hm : um v % bk < bk := Nat.mod_lt _ (by omega)
    refine lv_aload_n hx hb dX0_opened_19 rfl (lv_at hl 0 rfl) ?_
    refine va_get (D := D) (ci := 0) (v := .int (nI bk)) (C := RX0) (T := TX0) (N := 8) hx hb hts in_X0 hown hK hP 0 rfl rfl 7 (by decide) (hts _ q68) (fun _ h9 => h9) rfl dX0_opened_20 ?_
    refine n_irem hx hb dX0_opened_23 (by omega) (by omega) (by omega) ?_
    refine n_bald hx hb hK hP 1 0 rfl rfl (by omega) (by omega) dX0_opened_24 ?_
    refine lv_sipush (v := nI 255) hx hb dX0_opened_25 (by decide +kernel) ?_
    refine lv_iand hx hb dX0_opened_28 ?_
    exact W.iret (v := (g ((um v) % bk)) &&& (nI 255)) hx hb hr (fun t ht hW => ⟨_, rfl, by rw [if_neg c__1]; rfl, ht⟩) (fun _ h9 => nomatch h9) dX0_opened_29
  · refine lv_iconst (v := -1) hx hb dX0_opened_7 (by decide +kernel) ?_
    refine lv_goto (tgt := 29) hx hb dX0_opened_8 (by decide) ?_
    exact W.iret (v := (-1)) hx hb hr (fun t ht hW => ⟨_, rfl, by rw [if_pos c__1], ht⟩) (fun _ h9 => nomatch h9) dX0_opened_29

set_option maxHeartbeats 4000000 in
set_option maxRecDepth 100000 in
theorem mx_opened_m (l : Launch) (D : va_G) (x0 t1 k1 o1 : Nat) (z1 : Nat) (ln : Int32) (bk : Nat) (d0 : ClassId) (g : Nat → Int32) (v : Int32) (hb : bk ≤ 16384) : Met l yX5_opened (ws_ yX5_opened cX5_opened 2 (some .int)) ({ frames := 1, cells := 0, slots := 0, locals := 100 }) (pcR [.ref x0, .int v] D vwCl [(x0, .inr (1, [.ref t1, .ref k1, .ref o1, .int (nI z1), .int ln, .int (nI bk)])), (o1, .inl (d0, 16384, .inl g))] [(d0, .byte)]) (vp_Si (fun r : Int32 => r = if bk = 0 then -1 else g (um v % bk) &&& 255)) 0 0 (fun _ => False) := by
  refine n_metR (by decide) (Nat.le_of_ble_eq_true rfl) ?_
  intro p e s m below meth c hx hb hr hlocks hml hown hin hts hP hK ls hl
  have hown : s.vm.findClass "BlockPackerModel" = some m.cls := hown
  have hl : lv_has ls 2 [(0, .ref x0), (1, .int v)] := hl
  have hu := um_lt v
  have hbk := hb
  refine lv_aload_n hx hb dX5_opened_0 rfl (lv_at hl 0 rfl) ?_
  refine va_get (D := D) (ci := 1) (v := .int (nI bk)) (C := RX5) (T := TX5) (N := 6) hx hb hts in_X5 hown hK hP 0 rfl rfl 5 (by decide) (hts _ q631) (fun _ h9 => h9) rfl dX5_opened_1 ?_
  refine n_if_ne (tgt := 11) hx hb dX5_opened_4 (by decide) (by omega) (fun c__1 => ?_) (fun c__1 => ?_)
  · refine lv_aload_n hx hb dX5_opened_11 rfl (lv_at hl 0 rfl) ?_
    refine va_get (D := D) (ci := 1) (v := .ref o1) (C := RX5) (T := TX5) (N := 6) hx hb hts in_X5 hown hK hP 0 rfl rfl 2 (by decide) (hts _ q628) (fun _ h9 => h9) rfl dX5_opened_12 ?_
    refine lv_iload_n hx hb dX5_opened_15 rfl (lv_at hl 1 rfl) ?_
    refine lv_ldc hx hb hown (hts _ q653) dX5_opened_16 ?_
    refine n_topI (show (2147483647 : Int32) = nI 2147483647 by decide +kernel) ?_
    refine lv_iand hx hb dX5_opened_18 ?_
    refine n_topI (y := nI (um v)) (n_mask2 v) ?_
    have hm : um v % bk < bk := Nat.mod_lt _ (by omega)
    refine lv_aload_n hx hb dX5_opened_19 rfl (lv_at hl 0 rfl) ?_
    refine va_get (D := D) (ci := 1) (v := .int (nI bk)) (C := RX5) (T := TX5) (N := 6) hx hb hts in_X5 hown hK hP 0 rfl rfl 5 (by decide) (hts _ q631) (fun _ h9 => h9) rfl dX5_opened_20 ?_
    refine n_irem hx hb dX5_opened_23 (by omega) (by omega) (by omega) ?_
    refine n_bald hx hb hK hP 1 0 rfl rfl (by omega) (by omega) dX5_opened_24 ?_
    refine lv_sipush (v := nI 255) hx hb dX5_opened_25 (by decide +kernel) ?_
    refine lv_iand hx hb dX5_opened_28 ?_
    exact W.iret (v := (g ((um v) % bk)) &&& (nI 255)) hx hb hr (fun t ht hW => ⟨_, rfl, by rw [if_neg c__1]; rfl, ht⟩) (fun _ h9 => nomatch h9) dX5_opened_29
  · refine lv_iconst (v := -1) hx hb dX5_opened_7 (by decide +kernel) ?_
    refine lv_goto (tgt := 29) hx hb dX5_opened_8 (by decide) ?_
    exact W.iret (v := (-1)) hx hb hr (fun t ht hW => ⟨_, rfl, by rw [if_pos c__1], ht⟩) (fun _ h9 => nomatch h9) dX5_opened_29

set_option maxHeartbeats 4000000 in
set_option maxRecDepth 100000 in
theorem mx_fill_x (l : Launch) (D : va_G) (x0 c1 c2 t1 k1 o1 : Nat) (z1 : Nat) (ln : Int32) (bk : Nat) (d0 : ClassId) (g : Nat → Int32) (v w : Int32) (hz : z1 ≤ 16384) (hg : aB g) (sz : Nat) : Met l yX0_fill (ws_ yX0_fill cX0_fill 5 (some .int)) ({ frames := 1, cells := 0, slots := 0, locals := 100 }) (pcW [.ref x0, .int v, .int w] D vwCl [(x0, .inr (0, [.ref c1, .ref c2, .ref t1, .ref k1, .ref o1, .int (nI z1), .int ln, .int (nI bk)])), (t1, .inl (d0, 16384, .inl g))] [(d0, .byte)] sz) (va_Qi (fun (r : Int32) (u : (Nat → Int32) × Nat) => r = nI (cap z1 (um w % 1025)) ∧ u.2 = z1 + cap z1 (um w % 1025) ∧ (∀ j : Nat, j < z1 → u.1 j = g j) ∧ (∀ i : Nat, i < cap z1 (um w % 1025) → u.1 (z1 + i) = v.toInt8.toInt32) ∧ aB u.1) (fun (u : (Nat → Int32) × Nat) t => va_P D vwCl [(x0, .inr (0, [.ref c1, .ref c2, .ref t1, .ref k1, .ref o1, .int (nI u.2), .int ln, .int (nI bk)])), (t1, .inl (d0, 16384, .inl u.1))] t.heap) (va_A [(x0, .inr (0, [.ref c1, .ref c2, .ref t1, .ref k1, .ref o1, .int (nI z1), .int ln, .int (nI bk)])), (t1, .inl (d0, 16384, .inl g))] sz)) 0 0 (va_A [(x0, .inr (0, [.ref c1, .ref c2, .ref t1, .ref k1, .ref o1, .int (nI z1), .int ln, .int (nI bk)])), (t1, .inl (d0, 16384, .inl g))] sz) := by
  refine n_metW (Qc := fun A => va_Qi (fun (r : Int32) (u : (Nat → Int32) × Nat) => r = nI (cap z1 (um w % 1025)) ∧ u.2 = z1 + cap z1 (um w % 1025) ∧ (∀ j : Nat, j < z1 → u.1 j = g j) ∧ (∀ i : Nat, i < cap z1 (um w % 1025) → u.1 (z1 + i) = v.toInt8.toInt32) ∧ aB u.1) (fun (u : (Nat → Int32) × Nat) t => va_P D vwCl [(x0, .inr (0, [.ref c1, .ref c2, .ref t1, .ref k1, .ref o1, .int (nI u.2), .int ln, .int (nI bk)])), (t1, .inl (d0, 16384, .inl u.1))] t.heap) A) (by decide) (Nat.le_of_ble_eq_true rfl) ?_
  intro p e s m below meth c hx hb hr hlocks hml hown hin hts hP hK A hsz hD hA hS ls hl
  have hown : s.vm.findClass "BlockPacker" = some m.cls := hown
  have hl : lv_has ls 5 [(0, .ref x0), (1, .int v), (2, .int w)] := hl
  have hu := um_lt w
  have hcap := cap_le (n := um w % 1025) hz
  refine lv_iload_n hx hb dX0_fill_0 rfl (lv_at hl 2 rfl) ?_
  refine lv_ldc hx hb hown (hts _ q99) dX0_fill_1 ?_
  refine n_topI (show (2147483647 : Int32) = nI 2147483647 by decide +kernel) ?_
  refine lv_iand hx hb dX0_fill_3 ?_
  refine n_topI (y := nI (um w)) (n_mask2 w) ?_
  refine lv_sipush (v := nI 1025) hx hb dX0_fill_4 (by decide +kernel) ?_
  refine n_irem hx hb dX0_fill_7 (by omega) (by omega) (by omega) ?_
  refine lv_istore_n (lv' := [(3, .int (nI ((um w) % 1025))), (0, .ref x0), (1, .int v), (2, .int w)]) hx hb dX0_fill_8 rfl hl (by decide) rfl (fun ls hl => ?_)
  refine lv_iload_n hx hb dX0_fill_9 rfl (lv_at hl 0 rfl) ?_
  refine lv_aload_n hx hb dX0_fill_10 rfl (lv_at hl 1 rfl) ?_
  refine va_get (D := D) (ci := 0) (v := .ref t1) (C := RX0) (T := TX0) (N := 8) hx hb hts in_X0 hown hK hP 0 rfl rfl 2 (by decide) (hts _ q63) (fun _ h9 => h9) rfl dX0_fill_11 ?_
  refine va_alen (v := nI 16384) hx hb hK hP 1 0 rfl rfl rfl dX0_fill_14 ?_
  refine lv_aload_n hx hb dX0_fill_15 rfl (lv_at hl 1 rfl) ?_
  refine va_get (D := D) (ci := 0) (v := .int (nI z1)) (C := RX0) (T := TX0) (N := 8) hx hb hts in_X0 hown hK hP 0 rfl rfl 5 (by decide) (hts _ q66) (fun _ h9 => h9) rfl dX0_fill_16 ?_
  refine n_isub hx hb dX0_fill_19 (by omega) ?_
  refine n_cut 34 (fun H locs ls cells slots =>  lv_has ls 5 [(0, .ref x0), (1, .int v), (3, .int (nI (cap z1 (um w % 1025))))] ∧ va_P D vwCl [(x0, .inr (0, [.ref c1, .ref c2, .ref t1, .ref k1, .ref o1, .int (nI z1), .int ln, .int (nI bk)])), (t1, .inl (d0, 16384, .inl g))] H ∧ va_D A [(x0, .inr (0, [.ref c1, .ref c2, .ref t1, .ref k1, .ref o1, .int (nI z1), .int ln, .int (nI bk)])), (t1, .inl (d0, 16384, .inl g))] ∧ va_S A s.heap H locs ∧ cells = 0 ∧ slots = 0) ?_ (fun K => ?_)
  · clear hl hP hD hS
    intro H locs ls cells slots hI
    obtain ⟨hl, hP, hD, hS, rfl, rfl⟩ := hI
    refine lv_iconst (v := nI 0) hx hb dX0_fill_34 (by decide +kernel) ?_
    refine lv_istore (lv' := [(4, .int (nI 0)), (0, .ref x0), (1, .int v), (3, .int (nI (cap z1 (um w % 1025))))]) hx hb dX0_fill_35 hl (by decide) rfl (fun ls hl => ?_)
    refine n_loopAt 37 (fun n9 H locs ls cells slots => ∃ i : Nat, ∃ h : Nat → Int32, (n9 = cap z1 (um w % 1025) - i) ∧ (i ≤ cap z1 (um w % 1025)) ∧ (∀ j : Nat, j < z1 → h j = g j) ∧ (∀ j : Nat, j < i → h (z1 + j) = v.toInt8.toInt32) ∧ (aB h) ∧ lv_has ls 5 [(0, .ref x0), (1, .int v), (3, .int (nI (cap z1 (um w % 1025)))), (4, .int (nI i))] ∧ va_P D vwCl [(x0, .inr (0, [.ref c1, .ref c2, .ref t1, .ref k1, .ref o1, .int (nI z1), .int ln, .int (nI bk)])), (t1, .inl (d0, 16384, .inl h))] H ∧ va_D A [(x0, .inr (0, [.ref c1, .ref c2, .ref t1, .ref k1, .ref o1, .int (nI z1), .int ln, .int (nI bk)])), (t1, .inl (d0, 16384, .inl h))] ∧ va_S A s.heap H locs ∧ cells = 0 ∧ slots = 0) (cap z1 (um w % 1025)) ⟨0, g, rfl, by omega, fun _ _ => rfl, fun j hj => absurd hj (by omega), hg, (lv_sub hl [1, 2, 3, 0] rfl), hP, hD, hS, rfl, rfl⟩ ?_
    clear hl hP hD hS
    intro n ih H locs ls cells slots hI
    obtain ⟨i, h, hn, hi, hk1, hk2, hh, hl, hP, hD, hS, rfl, rfl⟩ := hI
    refine lv_iload hx hb dX0_fill_37 (lv_at hl 3 rfl) ?_
    refine lv_iload_n hx hb dX0_fill_39 rfl (lv_at hl 2 rfl) ?_
    refine n_icmp_ge (tgt := 63) hx hb dX0_fill_40 (by decide) (by omega) (by omega) (fun c__1 => ?_) (fun c__1 => ?_)
    · have hie : i = cap z1 (um w % 1025) := by omega
      refine lv_aload_n hx hb dX0_fill_63 rfl (lv_at hl 0 rfl) ?_
      refine lv_dup hx hb dX0_fill_64 rfl ?_
      refine va_get (D := D) (ci := 0) (v := .int (nI z1)) (C := RX0) (T := TX0) (N := 8) hx hb hts in_X0 hown hK hP 0 rfl rfl 5 (by decide) (hts _ q66) (fun _ h9 => h9) rfl dX0_fill_65 ?_
      refine lv_iload_n hx hb dX0_fill_68 rfl (lv_at hl 2 rfl) ?_
      refine n_iadd hx hb dX0_fill_69 ?_
      refine va_put (D := D) (ci := 0) (v := .int (nI (z1 + (cap z1 (um w % 1025))))) (ty := .int) (C := RX0) (T := TX0) (N := 8) hx hb hts in_X0 tyX0 tyX0_ok nmX0 hown hK hP hD hS 0 rfl rfl 5 (by decide) (hts _ q66) (fun _ h9 => h9) rfl (by decide +kernel) rfl rfl (Nat.le_of_ble_eq_true rfl) dX0_fill_70 (fun H locs hP hD hS => ?_)
      have hP : va_P D vwCl [(x0, .inr (0, [.ref c1, .ref c2, .ref t1, .ref k1, .ref o1, .int (nI (z1 + (cap z1 (um w % 1025)))), .int ln, .int (nI bk)])), (t1, .inl (d0, 16384, .inl h))] H := hP
      have hD : va_D A [(x0, .inr (0, [.ref c1, .ref c2, .ref t1, .ref k1, .ref o1, .int (nI (z1 + (cap z1 (um w % 1025)))), .int ln, .int (nI bk)])), (t1, .inl (d0, 16384, .inl h))] := hD
      refine lv_iload_n hx hb dX0_fill_73 rfl (lv_at hl 2 rfl) ?_
      exact W.iret (v := nI (cap z1 (um w % 1025))) hx hb hr (fun t ht hW => ⟨⟨nI (cap z1 (um w % 1025)), (h, z1 + cap z1 (um w % 1025)), rfl, ⟨rfl, rfl, hk1, fun j hj => hk2 j (by omega), hh⟩, n_hP ht hP⟩, hS.F ht⟩) hS.2.2 dX0_fill_74
    · refine lv_aload_n hx hb dX0_fill_43 rfl (lv_at hl 0 rfl) ?_
      refine va_get (D := D) (ci := 0) (v := .ref t1) (C := RX0) (T := TX0) (N := 8) hx hb hts in_X0 hown hK hP 0 rfl rfl 2 (by decide) (hts _ q63) (fun _ h9 => h9) rfl dX0_fill_44 ?_
      refine lv_aload_n hx hb dX0_fill_47 rfl (lv_at hl 0 rfl) ?_
      refine va_get (D := D) (ci := 0) (v := .int (nI z1)) (C := RX0) (T := TX0) (N := 8) hx hb hts in_X0 hown hK hP 0 rfl rfl 5 (by decide) (hts _ q66) (fun _ h9 => h9) rfl dX0_fill_48 ?_
      refine lv_iload hx hb dX0_fill_51 (lv_at hl 3 rfl) ?_
      refine n_iadd hx hb dX0_fill_53 ?_
      refine lv_iload_n hx hb dX0_fill_54 rfl (lv_at hl 1 rfl) ?_
      refine lv_i2b hx hb dX0_fill_55 rfl ?_
      refine n_bast hx hb hK hP hD hS 1 0 rfl rfl (by omega) (by omega) dX0_fill_56 (fun H locs hP hD hS => ?_)
      have hP : va_P D vwCl [(x0, .inr (0, [.ref c1, .ref c2, .ref t1, .ref k1, .ref o1, .int (nI z1), .int ln, .int (nI bk)])), (t1, .inl (d0, 16384, .inl (upd h (z1 + i) (vp_nar .byte ((v).toInt8.toInt32)))))] H := hP
      have hD : va_D A [(x0, .inr (0, [.ref c1, .ref c2, .ref t1, .ref k1, .ref o1, .int (nI z1), .int ln, .int (nI bk)])), (t1, .inl (d0, 16384, .inl (upd h (z1 + i) (vp_nar .byte ((v).toInt8.toInt32)))))] := hD
      refine lv_iinc (v := nI (i + 1)) (lv' := [(4, .int (nI (i + 1))), (0, .ref x0), (1, .int v), (3, .int (nI (cap z1 (um w % 1025))))]) hx hb dX0_fill_57 hl (k := 3) rfl (n_inc _ 1 (by decide +kernel)) (by decide) rfl (fun ls hl => ?_)
      refine lv_goto (tgt := 37) hx hb dX0_fill_60 (by decide) ?_
      refine ih (cap z1 (um w % 1025) - (i + 1)) (by omega) _ _ _ _ _ ⟨i + 1, upd h (z1 + i) (vp_nar .byte v.toInt8.toInt32), rfl, by omega, fun j hj => by rw [pk_un (by omega)]; exact hk1 j hj, fun j hj => ?_, aB_upd hh (bB_nar _), (lv_sub hl [1, 2, 3, 0] rfl), hP, hD, hS, rfl, rfl⟩
      rcases Nat.lt_or_ge j i with h9 | h9
      · rw [pk_un (by omega)]; exact hk2 j h9
      · rw [show z1 + j = z1 + i by omega, pk_us]; exact pk_vb v
  · refine n_icmp_le (tgt := 34) hx hb dX0_fill_20 (by decide) (by omega) (by omega) (fun c__2 => ?_) (fun c__2 => ?_)
    · have e0 : cap z1 (um w % 1025) = um w % 1025 := if_pos (by omega)
      exact K _ _ _ _ _ ⟨by rw [e0]; exact (lv_sub hl [1, 2, 0] rfl), hP, hD, hS, rfl, rfl⟩
    · refine lv_aload_n hx hb dX0_fill_23 rfl (lv_at hl 1 rfl) ?_
      refine va_get (D := D) (ci := 0) (v := .ref t1) (C := RX0) (T := TX0) (N := 8) hx hb hts in_X0 hown hK hP 0 rfl rfl 2 (by decide) (hts _ q63) (fun _ h9 => h9) rfl dX0_fill_24 ?_
      refine va_alen (v := nI 16384) hx hb hK hP 1 0 rfl rfl rfl dX0_fill_27 ?_
      refine lv_aload_n hx hb dX0_fill_28 rfl (lv_at hl 1 rfl) ?_
      refine va_get (D := D) (ci := 0) (v := .int (nI z1)) (C := RX0) (T := TX0) (N := 8) hx hb hts in_X0 hown hK hP 0 rfl rfl 5 (by decide) (hts _ q66) (fun _ h9 => h9) rfl dX0_fill_29 ?_
      refine n_isub hx hb dX0_fill_32 (by omega) ?_
      refine lv_istore_n (lv' := [(3, .int (nI (16384 - z1))), (0, .ref x0), (1, .int v), (2, .int w)]) hx hb dX0_fill_33 rfl hl (by decide) rfl (fun ls hl => ?_)
      have e0 : cap z1 (um w % 1025) = 16384 - z1 := if_neg (by omega)
      exact K _ _ _ _ _ ⟨by rw [e0]; exact (lv_sub hl [1, 2, 0] rfl), hP, hD, hS, rfl, rfl⟩

set_option maxHeartbeats 4000000 in
set_option maxRecDepth 100000 in
theorem mx_fill_m (l : Launch) (D : va_G) (x0 t1 k1 o1 : Nat) (z1 : Nat) (ln : Int32) (bk : Nat) (d0 : ClassId) (g : Nat → Int32) (v w : Int32) (hz : z1 ≤ 16384) (hg : aB g) (sz : Nat) : Met l yX5_fill (ws_ yX5_fill cX5_fill 5 (some .int)) ({ frames := 1, cells := 0, slots := 0, locals := 100 }) (pcW [.ref x0, .int v, .int w] D vwCl [(x0, .inr (1, [.ref t1, .ref k1, .ref o1, .int (nI z1), .int ln, .int (nI bk)])), (t1, .inl (d0, 16384, .inl g))] [(d0, .byte)] sz) (va_Qi (fun (r : Int32) (u : (Nat → Int32) × Nat) => r = nI (cap z1 (um w % 1025)) ∧ u.2 = z1 + cap z1 (um w % 1025) ∧ (∀ j : Nat, j < z1 → u.1 j = g j) ∧ (∀ i : Nat, i < cap z1 (um w % 1025) → u.1 (z1 + i) = v.toInt8.toInt32) ∧ aB u.1) (fun (u : (Nat → Int32) × Nat) t => va_P D vwCl [(x0, .inr (1, [.ref t1, .ref k1, .ref o1, .int (nI u.2), .int ln, .int (nI bk)])), (t1, .inl (d0, 16384, .inl u.1))] t.heap) (va_A [(x0, .inr (1, [.ref t1, .ref k1, .ref o1, .int (nI z1), .int ln, .int (nI bk)])), (t1, .inl (d0, 16384, .inl g))] sz)) 0 0 (va_A [(x0, .inr (1, [.ref t1, .ref k1, .ref o1, .int (nI z1), .int ln, .int (nI bk)])), (t1, .inl (d0, 16384, .inl g))] sz) := by
  refine n_metW (Qc := fun A => va_Qi (fun (r : Int32) (u : (Nat → Int32) × Nat) => r = nI (cap z1 (um w % 1025)) ∧ u.2 = z1 + cap z1 (um w % 1025) ∧ (∀ j : Nat, j < z1 → u.1 j = g j) ∧ (∀ i : Nat, i < cap z1 (um w % 1025) → u.1 (z1 + i) = v.toInt8.toInt32) ∧ aB u.1) (fun (u : (Nat → Int32) × Nat) t => va_P D vwCl [(x0, .inr (1, [.ref t1, .ref k1, .ref o1, .int (nI u.2), .int ln, .int (nI bk)])), (t1, .inl (d0, 16384, .inl u.1))] t.heap) A) (by decide) (Nat.le_of_ble_eq_true rfl) ?_
  intro p e s m below meth c hx hb hr hlocks hml hown hin hts hP hK A hsz hD hA hS ls hl
  have hown : s.vm.findClass "BlockPackerModel" = some m.cls := hown
  have hl : lv_has ls 5 [(0, .ref x0), (1, .int v), (2, .int w)] := hl
  have hu := um_lt w
  have hcap := cap_le (n := um w % 1025) hz
  refine lv_iload_n hx hb dX5_fill_0 rfl (lv_at hl 2 rfl) ?_
  refine lv_ldc hx hb hown (hts _ q653) dX5_fill_1 ?_
  refine n_topI (show (2147483647 : Int32) = nI 2147483647 by decide +kernel) ?_
  refine lv_iand hx hb dX5_fill_3 ?_
  refine n_topI (y := nI (um w)) (n_mask2 w) ?_
  refine lv_sipush (v := nI 1025) hx hb dX5_fill_4 (by decide +kernel) ?_
  refine n_irem hx hb dX5_fill_7 (by omega) (by omega) (by omega) ?_
  refine lv_istore_n (lv' := [(3, .int (nI ((um w) % 1025))), (0, .ref x0), (1, .int v), (2, .int w)]) hx hb dX5_fill_8 rfl hl (by decide) rfl (fun ls hl => ?_)
  refine lv_aload_n hx hb dX5_fill_9 rfl (lv_at hl 1 rfl) ?_
  refine va_get (D := D) (ci := 1) (v := .int (nI z1)) (C := RX5) (T := TX5) (N := 6) hx hb hts in_X5 hown hK hP 0 rfl rfl 3 (by decide) (hts _ q629) (fun _ h9 => h9) rfl dX5_fill_10 ?_
  refine lv_iload_n hx hb dX5_fill_13 rfl (lv_at hl 0 rfl) ?_
  refine n_iadd hx hb dX5_fill_14 ?_
  refine lv_sipush (v := nI 16384) hx hb dX5_fill_15 (by decide +kernel) ?_
  refine n_cut 30 (fun H locs ls cells slots =>  lv_has ls 5 [(0, .ref x0), (1, .int v), (3, .int (nI (cap z1 (um w % 1025))))] ∧ va_P D vwCl [(x0, .inr (1, [.ref t1, .ref k1, .ref o1, .int (nI z1), .int ln, .int (nI bk)])), (t1, .inl (d0, 16384, .inl g))] H ∧ va_D A [(x0, .inr (1, [.ref t1, .ref k1, .ref o1, .int (nI z1), .int ln, .int (nI bk)])), (t1, .inl (d0, 16384, .inl g))] ∧ va_S A s.heap H locs ∧ cells = 0 ∧ slots = 0) ?_ (fun K => ?_)
  · clear hl hP hD hS
    intro H locs ls cells slots hI
    obtain ⟨hl, hP, hD, hS, rfl, rfl⟩ := hI
    refine lv_iconst (v := nI 0) hx hb dX5_fill_30 (by decide +kernel) ?_
    refine lv_istore (lv' := [(4, .int (nI 0)), (0, .ref x0), (1, .int v), (3, .int (nI (cap z1 (um w % 1025))))]) hx hb dX5_fill_31 hl (by decide) rfl (fun ls hl => ?_)
    refine n_loopAt 33 (fun n9 H locs ls cells slots => ∃ i : Nat, ∃ h : Nat → Int32, ∃ y : Nat, (n9 = cap z1 (um w % 1025) - i) ∧ (i ≤ cap z1 (um w % 1025)) ∧ (∀ j : Nat, j < z1 → h j = g j) ∧ (∀ j : Nat, j < i → h (z1 + j) = v.toInt8.toInt32) ∧ (aB h) ∧ (y = z1 + i) ∧ lv_has ls 5 [(0, .ref x0), (1, .int v), (3, .int (nI (cap z1 (um w % 1025)))), (4, .int (nI i))] ∧ va_P D vwCl [(x0, .inr (1, [.ref t1, .ref k1, .ref o1, .int (nI y), .int ln, .int (nI bk)])), (t1, .inl (d0, 16384, .inl h))] H ∧ va_D A [(x0, .inr (1, [.ref t1, .ref k1, .ref o1, .int (nI y), .int ln, .int (nI bk)])), (t1, .inl (d0, 16384, .inl h))] ∧ va_S A s.heap H locs ∧ cells = 0 ∧ slots = 0) (cap z1 (um w % 1025)) ⟨0, g, z1, rfl, by omega, fun _ _ => rfl, fun j hj => absurd hj (by omega), hg, rfl, (lv_sub hl [1, 2, 3, 0] rfl), hP, hD, hS, rfl, rfl⟩ ?_
    clear hl hP hD hS
    intro n ih H locs ls cells slots hI
    obtain ⟨i, h, y, hn, hi, hk1, hk2, hh, hy, hl, hP, hD, hS, rfl, rfl⟩ := hI
    refine lv_iload hx hb dX5_fill_33 (lv_at hl 3 rfl) ?_
    refine lv_iload_n hx hb dX5_fill_35 rfl (lv_at hl 2 rfl) ?_
    refine n_icmp_ge (tgt := 66) hx hb dX5_fill_36 (by decide) (by omega) (by omega) (fun c__1 => ?_) (fun c__1 => ?_)
    · have hie : i = cap z1 (um w % 1025) := by omega
      refine lv_iload_n hx hb dX5_fill_66 rfl (lv_at hl 2 rfl) ?_
      exact W.iret (v := nI (cap z1 (um w % 1025))) hx hb hr (fun t ht hW => ⟨⟨nI (cap z1 (um w % 1025)), (h, y), rfl, ⟨rfl, by omega, hk1, fun j hj => hk2 j (by omega), hh⟩, n_hP ht hP⟩, hS.F ht⟩) hS.2.2 dX5_fill_67
    · refine lv_aload_n hx hb dX5_fill_39 rfl (lv_at hl 0 rfl) ?_
      refine va_get (D := D) (ci := 1) (v := .ref t1) (C := RX5) (T := TX5) (N := 6) hx hb hts in_X5 hown hK hP 0 rfl rfl 0 (by decide) (hts _ q626) (fun _ h9 => h9) rfl dX5_fill_40 ?_
      refine lv_aload_n hx hb dX5_fill_43 rfl (lv_at hl 0 rfl) ?_
      refine va_get (D := D) (ci := 1) (v := .int (nI y)) (C := RX5) (T := TX5) (N := 6) hx hb hts in_X5 hown hK hP 0 rfl rfl 3 (by decide) (hts _ q629) (fun _ h9 => h9) rfl dX5_fill_44 ?_
      refine lv_iload_n hx hb dX5_fill_47 rfl (lv_at hl 1 rfl) ?_
      refine lv_i2b hx hb dX5_fill_48 rfl ?_
      refine n_bast hx hb hK hP hD hS 1 0 rfl rfl (by omega) (by omega) dX5_fill_49 (fun H locs hP hD hS => ?_)
      have hP : va_P D vwCl [(x0, .inr (1, [.ref t1, .ref k1, .ref o1, .int (nI y), .int ln, .int (nI bk)])), (t1, .inl (d0, 16384, .inl (upd h y (vp_nar .byte ((v).toInt8.toInt32)))))] H := hP
      have hD : va_D A [(x0, .inr (1, [.ref t1, .ref k1, .ref o1, .int (nI y), .int ln, .int (nI bk)])), (t1, .inl (d0, 16384, .inl (upd h y (vp_nar .byte ((v).toInt8.toInt32)))))] := hD
      refine lv_aload_n hx hb dX5_fill_50 rfl (lv_at hl 0 rfl) ?_
      refine lv_aload_n hx hb dX5_fill_51 rfl (lv_at hl 0 rfl) ?_
      refine va_get (D := D) (ci := 1) (v := .int (nI y)) (C := RX5) (T := TX5) (N := 6) hx hb hts in_X5 hown hK hP 0 rfl rfl 3 (by decide) (hts _ q629) (fun _ h9 => h9) rfl dX5_fill_52 ?_
      refine lv_iconst (v := nI 1) hx hb dX5_fill_55 (by decide +kernel) ?_
      refine n_iadd hx hb dX5_fill_56 ?_
      refine va_put (D := D) (ci := 1) (v := .int (nI (y + 1))) (ty := .int) (C := RX5) (T := TX5) (N := 6) hx hb hts in_X5 tyX5 tyX5_ok nmX5 hown hK hP hD hS 0 rfl rfl 3 (by decide) (hts _ q629) (fun _ h9 => h9) rfl (by decide +kernel) rfl rfl (Nat.le_of_ble_eq_true rfl) dX5_fill_57 (fun H locs hP hD hS => ?_)
      have hP : va_P D vwCl [(x0, .inr (1, [.ref t1, .ref k1, .ref o1, .int (nI (y + 1)), .int ln, .int (nI bk)])), (t1, .inl (d0, 16384, .inl (upd h y (vp_nar .byte ((v).toInt8.toInt32)))))] H := hP
      have hD : va_D A [(x0, .inr (1, [.ref t1, .ref k1, .ref o1, .int (nI (y + 1)), .int ln, .int (nI bk)])), (t1, .inl (d0, 16384, .inl (upd h y (vp_nar .byte ((v).toInt8.toInt32)))))] := hD
      refine lv_iinc (v := nI (i + 1)) (lv' := [(4, .int (nI (i + 1))), (0, .ref x0), (1, .int v), (3, .int (nI (cap z1 (um w % 1025))))]) hx hb dX5_fill_60 hl (k := 3) rfl (n_inc _ 1 (by decide +kernel)) (by decide) rfl (fun ls hl => ?_)
      refine lv_goto (tgt := 33) hx hb dX5_fill_63 (by decide) ?_
      refine ih (cap z1 (um w % 1025) - (i + 1)) (by omega) _ _ _ _ _ ⟨i + 1, upd h (y) (vp_nar .byte v.toInt8.toInt32), y + 1, rfl, by omega, fun j hj => by rw [pk_un (by omega)]; exact hk1 j hj, fun j hj => ?_, aB_upd hh (bB_nar _), by omega, (lv_sub hl [1, 2, 3, 0] rfl), hP, hD, hS, rfl, rfl⟩
      rcases Nat.lt_or_ge j i with h9 | h9
      · rw [pk_un (by omega)]; exact hk2 j h9
      · rw [show z1 + j = y by omega, pk_us]; exact pk_vb v
  · refine n_icmp_le (tgt := 30) hx hb dX5_fill_18 (by decide) (by omega) (by omega) (fun c__2 => ?_) (fun c__2 => ?_)
    · have e0 : cap z1 (um w % 1025) = um w % 1025 := if_pos (by omega)
      exact K _ _ _ _ _ ⟨by rw [e0]; exact (lv_sub hl [1, 2, 0] rfl), hP, hD, hS, rfl, rfl⟩
    · refine lv_sipush (v := nI 16384) hx hb dX5_fill_21 (by decide +kernel) ?_
      refine lv_aload_n hx hb dX5_fill_24 rfl (lv_at hl 1 rfl) ?_
      refine va_get (D := D) (ci := 1) (v := .int (nI z1)) (C := RX5) (T := TX5) (N := 6) hx hb hts in_X5 hown hK hP 0 rfl rfl 3 (by decide) (hts _ q629) (fun _ h9 => h9) rfl dX5_fill_25 ?_
      refine n_isub hx hb dX5_fill_28 (by omega) ?_
      refine lv_istore_n (lv' := [(3, .int (nI (16384 - z1))), (0, .ref x0), (1, .int v), (2, .int w)]) hx hb dX5_fill_29 rfl hl (by decide) rfl (fun ls hl => ?_)
      have e0 : cap z1 (um w % 1025) = 16384 - z1 := if_neg (by omega)
      exact K _ _ _ _ _ ⟨by rw [e0]; exact (lv_sub hl [1, 2, 0] rfl), hP, hD, hS, rfl, rfl⟩

set_option maxHeartbeats 4000000 in
set_option maxRecDepth 100000 in
theorem mx_repeat_x (l : Launch) (D : va_G) (x0 c1 c2 t1 k1 o1 : Nat) (z1 : Nat) (ln : Int32) (bk : Nat) (d0 : ClassId) (g : Nat → Int32) (v w : Int32) (hz : z1 ≤ 16384) (hg : aB g) (sz : Nat) : Met l yX0_repeat (ws_ yX0_repeat cX0_repeat 6 (some .int)) ({ frames := 1, cells := 0, slots := 0, locals := 100 }) (pcW [.ref x0, .int v, .int w] D vwCl [(x0, .inr (0, [.ref c1, .ref c2, .ref t1, .ref k1, .ref o1, .int (nI z1), .int ln, .int (nI bk)])), (t1, .inl (d0, 16384, .inl g))] [(d0, .byte)] sz) (va_Qi (fun (r : Int32) (u : (Nat → Int32) × Nat) => (z1 = 0 → r = -1 ∧ u = (g, z1)) ∧ (¬ z1 = 0 → r = nI (cap z1 (um w % 1025)) ∧ u.2 = z1 + cap z1 (um w % 1025) ∧ (∀ j : Nat, j < z1 → u.1 j = g j) ∧ (∀ i : Nat, i < cap z1 (um w % 1025) → u.1 (z1 + i) = u.1 (um v % z1 + i)) ∧ aB u.1)) (fun (u : (Nat → Int32) × Nat) t => va_P D vwCl [(x0, .inr (0, [.ref c1, .ref c2, .ref t1, .ref k1, .ref o1, .int (nI u.2), .int ln, .int (nI bk)])), (t1, .inl (d0, 16384, .inl u.1))] t.heap) (va_A [(x0, .inr (0, [.ref c1, .ref c2, .ref t1, .ref k1, .ref o1, .int (nI z1), .int ln, .int (nI bk)])), (t1, .inl (d0, 16384, .inl g))] sz)) 0 0 (va_A [(x0, .inr (0, [.ref c1, .ref c2, .ref t1, .ref k1, .ref o1, .int (nI z1), .int ln, .int (nI bk)])), (t1, .inl (d0, 16384, .inl g))] sz) := by
  refine n_metW (Qc := fun A => va_Qi (fun (r : Int32) (u : (Nat → Int32) × Nat) => (z1 = 0 → r = -1 ∧ u = (g, z1)) ∧ (¬ z1 = 0 → r = nI (cap z1 (um w % 1025)) ∧ u.2 = z1 + cap z1 (um w % 1025) ∧ (∀ j : Nat, j < z1 → u.1 j = g j) ∧ (∀ i : Nat, i < cap z1 (um w % 1025) → u.1 (z1 + i) = u.1 (um v % z1 + i)) ∧ aB u.1)) (fun (u : (Nat → Int32) × Nat) t => va_P D vwCl [(x0, .inr (0, [.ref c1, .ref c2, .ref t1, .ref k1, .ref o1, .int (nI u.2), .int ln, .int (nI bk)])), (t1, .inl (d0, 16384, .inl u.1))] t.heap) A) (by decide) (Nat.le_of_ble_eq_true rfl) ?_
  intro p e s m below meth c hx hb hr hlocks hml hown hin hts hP hK A hsz hD hA hS ls hl
  have hown : s.vm.findClass "BlockPacker" = some m.cls := hown
  have hl : lv_has ls 6 [(0, .ref x0), (1, .int v), (2, .int w)] := hl
  have hu := um_lt w
  have hu2 := um_lt v
  have hcap := cap_le (n := um w % 1025) hz
  refine lv_aload_n hx hb dX0_repeat_0 rfl (lv_at hl 0 rfl) ?_
  refine va_get (D := D) (ci := 0) (v := .int (nI z1)) (C := RX0) (T := TX0) (N := 8) hx hb hts in_X0 hown hK hP 0 rfl rfl 5 (by decide) (hts _ q66) (fun _ h9 => h9) rfl dX0_repeat_1 ?_
  refine n_if_ne (tgt := 9) hx hb dX0_repeat_4 (by decide) (by omega) (fun c__1 => ?_) (fun c__1 => ?_)
  · have hf : um v % z1 < z1 := Nat.mod_lt _ (by omega)
    refine lv_iload_n hx hb dX0_repeat_9 rfl (lv_at hl 1 rfl) ?_
    refine lv_ldc hx hb hown (hts _ q99) dX0_repeat_10 ?_
    refine n_topI (show (2147483647 : Int32) = nI 2147483647 by decide +kernel) ?_
    refine lv_iand hx hb dX0_repeat_12 ?_
    refine n_topI (y := nI (um v)) (n_mask2 v) ?_
    refine lv_aload_n hx hb dX0_repeat_13 rfl (lv_at hl 0 rfl) ?_
    refine va_get (D := D) (ci := 0) (v := .int (nI z1)) (C := RX0) (T := TX0) (N := 8) hx hb hts in_X0 hown hK hP 0 rfl rfl 5 (by decide) (hts _ q66) (fun _ h9 => h9) rfl dX0_repeat_14 ?_
    refine n_irem hx hb dX0_repeat_17 (by omega) (by omega) (by omega) ?_
    refine lv_istore_n (lv' := [(3, .int (nI ((um v) % z1))), (0, .ref x0), (1, .int v), (2, .int w)]) hx hb dX0_repeat_18 rfl hl (by decide) rfl (fun ls hl => ?_)
    refine lv_iload_n hx hb dX0_repeat_19 rfl (lv_at hl 3 rfl) ?_
    refine lv_ldc hx hb hown (hts _ q99) dX0_repeat_20 ?_
    refine n_topI (show (2147483647 : Int32) = nI 2147483647 by decide +kernel) ?_
    refine lv_iand hx hb dX0_repeat_22 ?_
    refine n_topI (y := nI (um w)) (n_mask2 w) ?_
    refine lv_sipush (v := nI 1025) hx hb dX0_repeat_23 (by decide +kernel) ?_
    refine n_irem hx hb dX0_repeat_26 (by omega) (by omega) (by omega) ?_
    refine lv_istore (lv' := [(4, .int (nI ((um w) % 1025))), (3, .int (nI ((um v) % z1))), (0, .ref x0), (1, .int v), (2, .int w)]) hx hb dX0_repeat_27 hl (by decide) rfl (fun ls hl => ?_)
    refine lv_iload hx hb dX0_repeat_29 (lv_at hl 0 rfl) ?_
    refine lv_aload_n hx hb dX0_repeat_31 rfl (lv_at hl 2 rfl) ?_
    refine va_get (D := D) (ci := 0) (v := .ref t1) (C := RX0) (T := TX0) (N := 8) hx hb hts in_X0 hown hK hP 0 rfl rfl 2 (by decide) (hts _ q63) (fun _ h9 => h9) rfl dX0_repeat_32 ?_
    refine va_alen (v := nI 16384) hx hb hK hP 1 0 rfl rfl rfl dX0_repeat_35 ?_
    refine lv_aload_n hx hb dX0_repeat_36 rfl (lv_at hl 2 rfl) ?_
    refine va_get (D := D) (ci := 0) (v := .int (nI z1)) (C := RX0) (T := TX0) (N := 8) hx hb hts in_X0 hown hK hP 0 rfl rfl 5 (by decide) (hts _ q66) (fun _ h9 => h9) rfl dX0_repeat_37 ?_
    refine n_isub hx hb dX0_repeat_40 (by omega) ?_
    refine n_cut 56 (fun H locs ls cells slots =>  lv_has ls 6 [(0, .ref x0), (3, .int (nI (um v % z1))), (4, .int (nI (cap z1 (um w % 1025))))] ∧ va_P D vwCl [(x0, .inr (0, [.ref c1, .ref c2, .ref t1, .ref k1, .ref o1, .int (nI z1), .int ln, .int (nI bk)])), (t1, .inl (d0, 16384, .inl g))] H ∧ va_D A [(x0, .inr (0, [.ref c1, .ref c2, .ref t1, .ref k1, .ref o1, .int (nI z1), .int ln, .int (nI bk)])), (t1, .inl (d0, 16384, .inl g))] ∧ va_S A s.heap H locs ∧ cells = 0 ∧ slots = 0) ?_ (fun K => ?_)
    · clear hl hP hD hS
      intro H locs ls cells slots hI
      obtain ⟨hl, hP, hD, hS, rfl, rfl⟩ := hI
      refine lv_iconst (v := nI 0) hx hb dX0_repeat_56 (by decide +kernel) ?_
      refine lv_istore (lv' := [(5, .int (nI 0)), (0, .ref x0), (3, .int (nI (um v % z1))), (4, .int (nI (cap z1 (um w % 1025))))]) hx hb dX0_repeat_57 hl (by decide) rfl (fun ls hl => ?_)
      refine n_loopAt 59 (fun n9 H locs ls cells slots => ∃ i : Nat, ∃ h : Nat → Int32, (n9 = cap z1 (um w % 1025) - i) ∧ (i ≤ cap z1 (um w % 1025)) ∧ (∀ j : Nat, j < z1 → h j = g j) ∧ (∀ j : Nat, j < i → h (z1 + j) = h (um v % z1 + j)) ∧ (aB h) ∧ lv_has ls 6 [(0, .ref x0), (3, .int (nI (um v % z1))), (4, .int (nI (cap z1 (um w % 1025)))), (5, .int (nI i))] ∧ va_P D vwCl [(x0, .inr (0, [.ref c1, .ref c2, .ref t1, .ref k1, .ref o1, .int (nI z1), .int ln, .int (nI bk)])), (t1, .inl (d0, 16384, .inl h))] H ∧ va_D A [(x0, .inr (0, [.ref c1, .ref c2, .ref t1, .ref k1, .ref o1, .int (nI z1), .int ln, .int (nI bk)])), (t1, .inl (d0, 16384, .inl h))] ∧ va_S A s.heap H locs ∧ cells = 0 ∧ slots = 0) (cap z1 (um w % 1025)) ⟨0, g, rfl, by omega, fun _ _ => rfl, fun j hj => absurd hj (by omega), hg, (lv_sub hl [1, 2, 3, 0] rfl), hP, hD, hS, rfl, rfl⟩ ?_
      clear hl hP hD hS
      intro n ih H locs ls cells slots hI
      obtain ⟨i, h, hn, hi, hk1, hk2, hh, hl, hP, hD, hS, rfl, rfl⟩ := hI
      refine lv_iload hx hb dX0_repeat_59 (lv_at hl 3 rfl) ?_
      refine lv_iload hx hb dX0_repeat_61 (lv_at hl 2 rfl) ?_
      refine n_icmp_ge (tgt := 93) hx hb dX0_repeat_63 (by decide) (by omega) (by omega) (fun c__2 => ?_) (fun c__2 => ?_)
      · have hie : i = cap z1 (um w % 1025) := by omega
        refine lv_aload_n hx hb dX0_repeat_93 rfl (lv_at hl 0 rfl) ?_
        refine lv_dup hx hb dX0_repeat_94 rfl ?_
        refine va_get (D := D) (ci := 0) (v := .int (nI z1)) (C := RX0) (T := TX0) (N := 8) hx hb hts in_X0 hown hK hP 0 rfl rfl 5 (by decide) (hts _ q66) (fun _ h9 => h9) rfl dX0_repeat_95 ?_
        refine lv_iload hx hb dX0_repeat_98 (lv_at hl 2 rfl) ?_
        refine n_iadd hx hb dX0_repeat_100 ?_
        refine va_put (D := D) (ci := 0) (v := .int (nI (z1 + (cap z1 (um w % 1025))))) (ty := .int) (C := RX0) (T := TX0) (N := 8) hx hb hts in_X0 tyX0 tyX0_ok nmX0 hown hK hP hD hS 0 rfl rfl 5 (by decide) (hts _ q66) (fun _ h9 => h9) rfl (by decide +kernel) rfl rfl (Nat.le_of_ble_eq_true rfl) dX0_repeat_101 (fun H locs hP hD hS => ?_)
        have hP : va_P D vwCl [(x0, .inr (0, [.ref c1, .ref c2, .ref t1, .ref k1, .ref o1, .int (nI (z1 + (cap z1 (um w % 1025)))), .int ln, .int (nI bk)])), (t1, .inl (d0, 16384, .inl h))] H := hP
        have hD : va_D A [(x0, .inr (0, [.ref c1, .ref c2, .ref t1, .ref k1, .ref o1, .int (nI (z1 + (cap z1 (um w % 1025)))), .int ln, .int (nI bk)])), (t1, .inl (d0, 16384, .inl h))] := hD
        refine lv_iload hx hb dX0_repeat_104 (lv_at hl 2 rfl) ?_
        exact W.iret (v := nI (cap z1 (um w % 1025))) hx hb hr (fun t ht hW => ⟨⟨nI (cap z1 (um w % 1025)), (h, z1 + cap z1 (um w % 1025)), rfl, ⟨fun h9 => absurd h9 c__1, fun _ => ⟨rfl, rfl, hk1, fun j hj => hk2 j (by omega), hh⟩⟩, n_hP ht hP⟩, hS.F ht⟩) hS.2.2 dX0_repeat_106
      · refine lv_aload_n hx hb dX0_repeat_66 rfl (lv_at hl 0 rfl) ?_
        refine va_get (D := D) (ci := 0) (v := .ref t1) (C := RX0) (T := TX0) (N := 8) hx hb hts in_X0 hown hK hP 0 rfl rfl 2 (by decide) (hts _ q63) (fun _ h9 => h9) rfl dX0_repeat_67 ?_
        refine lv_aload_n hx hb dX0_repeat_70 rfl (lv_at hl 0 rfl) ?_
        refine va_get (D := D) (ci := 0) (v := .int (nI z1)) (C := RX0) (T := TX0) (N := 8) hx hb hts in_X0 hown hK hP 0 rfl rfl 5 (by decide) (hts _ q66) (fun _ h9 => h9) rfl dX0_repeat_71 ?_
        refine lv_iload hx hb dX0_repeat_74 (lv_at hl 3 rfl) ?_
        refine n_iadd hx hb dX0_repeat_76 ?_
        refine lv_aload_n hx hb dX0_repeat_77 rfl (lv_at hl 0 rfl) ?_
        refine va_get (D := D) (ci := 0) (v := .ref t1) (C := RX0) (T := TX0) (N := 8) hx hb hts in_X0 hown hK hP 0 rfl rfl 2 (by decide) (hts _ q63) (fun _ h9 => h9) rfl dX0_repeat_78 ?_
        refine lv_iload_n hx hb dX0_repeat_81 rfl (lv_at hl 1 rfl) ?_
        refine lv_iload hx hb dX0_repeat_82 (lv_at hl 3 rfl) ?_
        refine n_iadd hx hb dX0_repeat_84 ?_
        refine n_bald hx hb hK hP 1 0 rfl rfl (by omega) (by omega) dX0_repeat_85 ?_
        refine n_bast hx hb hK hP hD hS 1 0 rfl rfl (by omega) (by omega) dX0_repeat_86 (fun H locs hP hD hS => ?_)
        have hP : va_P D vwCl [(x0, .inr (0, [.ref c1, .ref c2, .ref t1, .ref k1, .ref o1, .int (nI z1), .int ln, .int (nI bk)])), (t1, .inl (d0, 16384, .inl (upd h (z1 + i) (vp_nar .byte (h ((um v % z1) + i))))))] H := hP
        have hD : va_D A [(x0, .inr (0, [.ref c1, .ref c2, .ref t1, .ref k1, .ref o1, .int (nI z1), .int ln, .int (nI bk)])), (t1, .inl (d0, 16384, .inl (upd h (z1 + i) (vp_nar .byte (h ((um v % z1) + i))))))] := hD
        refine lv_iinc (v := nI (i + 1)) (lv' := [(5, .int (nI (i + 1))), (0, .ref x0), (3, .int (nI (um v % z1))), (4, .int (nI (cap z1 (um w % 1025))))]) hx hb dX0_repeat_87 hl (k := 3) rfl (n_inc _ 1 (by decide +kernel)) (by decide) rfl (fun ls hl => ?_)
        refine lv_goto (tgt := 59) hx hb dX0_repeat_90 (by decide) ?_
        exact ih (cap z1 (um w % 1025) - (i + 1)) (by omega) _ _ _ _ _ ⟨i + 1, upd h (z1 + i) (vp_nar .byte (h (um v % z1 + i))), rfl, by omega, fun j hj => by rw [pk_un (by omega)]; exact hk1 j hj, inc_step hf hk2 hh, aB_upd hh (bB_nar _), (lv_sub hl [1, 2, 3, 0] rfl), hP, hD, hS, rfl, rfl⟩
    · refine n_icmp_le (tgt := 56) hx hb dX0_repeat_41 (by decide) (by omega) (by omega) (fun c__3 => ?_) (fun c__3 => ?_)
      · have e0 : cap z1 (um w % 1025) = um w % 1025 := if_pos (by omega)
        exact K _ _ _ _ _ ⟨by rw [e0]; exact (lv_sub hl [2, 1, 0] rfl), hP, hD, hS, rfl, rfl⟩
      · refine lv_aload_n hx hb dX0_repeat_44 rfl (lv_at hl 2 rfl) ?_
        refine va_get (D := D) (ci := 0) (v := .ref t1) (C := RX0) (T := TX0) (N := 8) hx hb hts in_X0 hown hK hP 0 rfl rfl 2 (by decide) (hts _ q63) (fun _ h9 => h9) rfl dX0_repeat_45 ?_
        refine va_alen (v := nI 16384) hx hb hK hP 1 0 rfl rfl rfl dX0_repeat_48 ?_
        refine lv_aload_n hx hb dX0_repeat_49 rfl (lv_at hl 2 rfl) ?_
        refine va_get (D := D) (ci := 0) (v := .int (nI z1)) (C := RX0) (T := TX0) (N := 8) hx hb hts in_X0 hown hK hP 0 rfl rfl 5 (by decide) (hts _ q66) (fun _ h9 => h9) rfl dX0_repeat_50 ?_
        refine n_isub hx hb dX0_repeat_53 (by omega) ?_
        refine lv_istore (lv' := [(4, .int (nI (16384 - z1))), (3, .int (nI ((um v) % z1))), (0, .ref x0), (1, .int v), (2, .int w)]) hx hb dX0_repeat_54 hl (by decide) rfl (fun ls hl => ?_)
        have e0 : cap z1 (um w % 1025) = 16384 - z1 := if_neg (by omega)
        exact K _ _ _ _ _ ⟨by rw [e0]; exact (lv_sub hl [2, 1, 0] rfl), hP, hD, hS, rfl, rfl⟩
  · refine lv_iconst (v := -1) hx hb dX0_repeat_7 (by decide +kernel) ?_
    exact W.iret (v := (-1)) hx hb hr (fun t ht hW => ⟨⟨(-1), (g, z1), rfl, ⟨fun _ => ⟨rfl, rfl⟩, fun h9 => absurd c__1 h9⟩, n_hP ht hP⟩, hS.F ht⟩) hS.2.2 dX0_repeat_8

set_option maxHeartbeats 4000000 in
set_option maxRecDepth 100000 in
theorem mx_repeat_m (l : Launch) (D : va_G) (x0 t1 k1 o1 : Nat) (z1 : Nat) (ln : Int32) (bk : Nat) (d0 : ClassId) (g : Nat → Int32) (v w : Int32) (hz : z1 ≤ 16384) (hg : aB g) (sz : Nat) : Met l yX5_repeat (ws_ yX5_repeat cX5_repeat 6 (some .int)) ({ frames := 1, cells := 0, slots := 0, locals := 100 }) (pcW [.ref x0, .int v, .int w] D vwCl [(x0, .inr (1, [.ref t1, .ref k1, .ref o1, .int (nI z1), .int ln, .int (nI bk)])), (t1, .inl (d0, 16384, .inl g))] [(d0, .byte)] sz) (va_Qi (fun (r : Int32) (u : (Nat → Int32) × Nat) => (z1 = 0 → r = -1 ∧ u = (g, z1)) ∧ (¬ z1 = 0 → r = nI (cap z1 (um w % 1025)) ∧ u.2 = z1 + cap z1 (um w % 1025) ∧ (∀ j : Nat, j < z1 → u.1 j = g j) ∧ (∀ i : Nat, i < cap z1 (um w % 1025) → u.1 (z1 + i) = u.1 (um v % z1 + i)) ∧ aB u.1)) (fun (u : (Nat → Int32) × Nat) t => va_P D vwCl [(x0, .inr (1, [.ref t1, .ref k1, .ref o1, .int (nI u.2), .int ln, .int (nI bk)])), (t1, .inl (d0, 16384, .inl u.1))] t.heap) (va_A [(x0, .inr (1, [.ref t1, .ref k1, .ref o1, .int (nI z1), .int ln, .int (nI bk)])), (t1, .inl (d0, 16384, .inl g))] sz)) 0 0 (va_A [(x0, .inr (1, [.ref t1, .ref k1, .ref o1, .int (nI z1), .int ln, .int (nI bk)])), (t1, .inl (d0, 16384, .inl g))] sz) := by
  refine n_metW (Qc := fun A => va_Qi (fun (r : Int32) (u : (Nat → Int32) × Nat) => (z1 = 0 → r = -1 ∧ u = (g, z1)) ∧ (¬ z1 = 0 → r = nI (cap z1 (um w % 1025)) ∧ u.2 = z1 + cap z1 (um w % 1025) ∧ (∀ j : Nat, j < z1 → u.1 j = g j) ∧ (∀ i : Nat, i < cap z1 (um w % 1025) → u.1 (z1 + i) = u.1 (um v % z1 + i)) ∧ aB u.1)) (fun (u : (Nat → Int32) × Nat) t => va_P D vwCl [(x0, .inr (1, [.ref t1, .ref k1, .ref o1, .int (nI u.2), .int ln, .int (nI bk)])), (t1, .inl (d0, 16384, .inl u.1))] t.heap) A) (by decide) (Nat.le_of_ble_eq_true rfl) ?_
  intro p e s m below meth c hx hb hr hlocks hml hown hin hts hP hK A hsz hD hA hS ls hl
  have hown : s.vm.findClass "BlockPackerModel" = some m.cls := hown
  have hl : lv_has ls 6 [(0, .ref x0), (1, .int v), (2, .int w)] := hl
  have hu := um_lt w
  have hu2 := um_lt v
  have hcap := cap_le (n := um w % 1025) hz
  refine lv_aload_n hx hb dX5_repeat_0 rfl (lv_at hl 0 rfl) ?_
  refine va_get (D := D) (ci := 1) (v := .int (nI z1)) (C := RX5) (T := TX5) (N := 6) hx hb hts in_X5 hown hK hP 0 rfl rfl 3 (by decide) (hts _ q629) (fun _ h9 => h9) rfl dX5_repeat_1 ?_
  refine n_if_ne (tgt := 9) hx hb dX5_repeat_4 (by decide) (by omega) (fun c__1 => ?_) (fun c__1 => ?_)
  · have hf : um v % z1 < z1 := Nat.mod_lt _ (by omega)
    refine lv_iload_n hx hb dX5_repeat_9 rfl (lv_at hl 1 rfl) ?_
    refine lv_ldc hx hb hown (hts _ q653) dX5_repeat_10 ?_
    refine n_topI (show (2147483647 : Int32) = nI 2147483647 by decide +kernel) ?_
    refine lv_iand hx hb dX5_repeat_12 ?_
    refine n_topI (y := nI (um v)) (n_mask2 v) ?_
    refine lv_aload_n hx hb dX5_repeat_13 rfl (lv_at hl 0 rfl) ?_
    refine va_get (D := D) (ci := 1) (v := .int (nI z1)) (C := RX5) (T := TX5) (N := 6) hx hb hts in_X5 hown hK hP 0 rfl rfl 3 (by decide) (hts _ q629) (fun _ h9 => h9) rfl dX5_repeat_14 ?_
    refine n_irem hx hb dX5_repeat_17 (by omega) (by omega) (by omega) ?_
    refine lv_istore_n (lv' := [(3, .int (nI ((um v) % z1))), (0, .ref x0), (1, .int v), (2, .int w)]) hx hb dX5_repeat_18 rfl hl (by decide) rfl (fun ls hl => ?_)
    refine lv_iload_n hx hb dX5_repeat_19 rfl (lv_at hl 3 rfl) ?_
    refine lv_ldc hx hb hown (hts _ q653) dX5_repeat_20 ?_
    refine n_topI (show (2147483647 : Int32) = nI 2147483647 by decide +kernel) ?_
    refine lv_iand hx hb dX5_repeat_22 ?_
    refine n_topI (y := nI (um w)) (n_mask2 w) ?_
    refine lv_sipush (v := nI 1025) hx hb dX5_repeat_23 (by decide +kernel) ?_
    refine n_irem hx hb dX5_repeat_26 (by omega) (by omega) (by omega) ?_
    refine lv_istore (lv' := [(4, .int (nI ((um w) % 1025))), (3, .int (nI ((um v) % z1))), (0, .ref x0), (1, .int v), (2, .int w)]) hx hb dX5_repeat_27 hl (by decide) rfl (fun ls hl => ?_)
    refine lv_aload_n hx hb dX5_repeat_29 rfl (lv_at hl 2 rfl) ?_
    refine va_get (D := D) (ci := 1) (v := .int (nI z1)) (C := RX5) (T := TX5) (N := 6) hx hb hts in_X5 hown hK hP 0 rfl rfl 3 (by decide) (hts _ q629) (fun _ h9 => h9) rfl dX5_repeat_30 ?_
    refine lv_iload hx hb dX5_repeat_33 (lv_at hl 0 rfl) ?_
    refine n_iadd hx hb dX5_repeat_35 ?_
    refine lv_sipush (v := nI 16384) hx hb dX5_repeat_36 (by decide +kernel) ?_
    refine n_cut 52 (fun H locs ls cells slots =>  lv_has ls 6 [(0, .ref x0), (3, .int (nI (um v % z1))), (4, .int (nI (cap z1 (um w % 1025))))] ∧ va_P D vwCl [(x0, .inr (1, [.ref t1, .ref k1, .ref o1, .int (nI z1), .int ln, .int (nI bk)])), (t1, .inl (d0, 16384, .inl g))] H ∧ va_D A [(x0, .inr (1, [.ref t1, .ref k1, .ref o1, .int (nI z1), .int ln, .int (nI bk)])), (t1, .inl (d0, 16384, .inl g))] ∧ va_S A s.heap H locs ∧ cells = 0 ∧ slots = 0) ?_ (fun K => ?_)
    · clear hl hP hD hS
      intro H locs ls cells slots hI
      obtain ⟨hl, hP, hD, hS, rfl, rfl⟩ := hI
      refine lv_iconst (v := nI 0) hx hb dX5_repeat_52 (by decide +kernel) ?_
      refine lv_istore (lv' := [(5, .int (nI 0)), (0, .ref x0), (3, .int (nI (um v % z1))), (4, .int (nI (cap z1 (um w % 1025))))]) hx hb dX5_repeat_53 hl (by decide) rfl (fun ls hl => ?_)
      refine n_loopAt 55 (fun n9 H locs ls cells slots => ∃ i : Nat, ∃ h : Nat → Int32, ∃ y : Nat, (n9 = cap z1 (um w % 1025) - i) ∧ (i ≤ cap z1 (um w % 1025)) ∧ (∀ j : Nat, j < z1 → h j = g j) ∧ (∀ j : Nat, j < i → h (z1 + j) = h (um v % z1 + j)) ∧ (aB h) ∧ (y = z1 + i) ∧ lv_has ls 6 [(0, .ref x0), (3, .int (nI (um v % z1))), (4, .int (nI (cap z1 (um w % 1025)))), (5, .int (nI i))] ∧ va_P D vwCl [(x0, .inr (1, [.ref t1, .ref k1, .ref o1, .int (nI y), .int ln, .int (nI bk)])), (t1, .inl (d0, 16384, .inl h))] H ∧ va_D A [(x0, .inr (1, [.ref t1, .ref k1, .ref o1, .int (nI y), .int ln, .int (nI bk)])), (t1, .inl (d0, 16384, .inl h))] ∧ va_S A s.heap H locs ∧ cells = 0 ∧ slots = 0) (cap z1 (um w % 1025)) ⟨0, g, z1, rfl, by omega, fun _ _ => rfl, fun j hj => absurd hj (by omega), hg, rfl, (lv_sub hl [1, 2, 3, 0] rfl), hP, hD, hS, rfl, rfl⟩ ?_
      clear hl hP hD hS
      intro n ih H locs ls cells slots hI
      obtain ⟨i, h, y, hn, hi, hk1, hk2, hh, hy, hl, hP, hD, hS, rfl, rfl⟩ := hI
      refine lv_iload hx hb dX5_repeat_55 (lv_at hl 3 rfl) ?_
      refine lv_iload hx hb dX5_repeat_57 (lv_at hl 2 rfl) ?_
      refine n_icmp_ge (tgt := 96) hx hb dX5_repeat_59 (by decide) (by omega) (by omega) (fun c__2 => ?_) (fun c__2 => ?_)
      · have hie : i = cap z1 (um w % 1025) := by omega
        refine lv_iload hx hb dX5_repeat_96 (lv_at hl 2 rfl) ?_
        exact W.iret (v := nI (cap z1 (um w % 1025))) hx hb hr (fun t ht hW => ⟨⟨nI (cap z1 (um w % 1025)), (h, y), rfl, ⟨fun h9 => absurd h9 c__1, fun _ => ⟨rfl, by omega, hk1, fun j hj => hk2 j (by omega), hh⟩⟩, n_hP ht hP⟩, hS.F ht⟩) hS.2.2 dX5_repeat_98
      · refine lv_aload_n hx hb dX5_repeat_62 rfl (lv_at hl 0 rfl) ?_
        refine va_get (D := D) (ci := 1) (v := .ref t1) (C := RX5) (T := TX5) (N := 6) hx hb hts in_X5 hown hK hP 0 rfl rfl 0 (by decide) (hts _ q626) (fun _ h9 => h9) rfl dX5_repeat_63 ?_
        refine lv_aload_n hx hb dX5_repeat_66 rfl (lv_at hl 0 rfl) ?_
        refine va_get (D := D) (ci := 1) (v := .int (nI y)) (C := RX5) (T := TX5) (N := 6) hx hb hts in_X5 hown hK hP 0 rfl rfl 3 (by decide) (hts _ q629) (fun _ h9 => h9) rfl dX5_repeat_67 ?_
        refine lv_aload_n hx hb dX5_repeat_70 rfl (lv_at hl 0 rfl) ?_
        refine va_get (D := D) (ci := 1) (v := .ref t1) (C := RX5) (T := TX5) (N := 6) hx hb hts in_X5 hown hK hP 0 rfl rfl 0 (by decide) (hts _ q626) (fun _ h9 => h9) rfl dX5_repeat_71 ?_
        refine lv_iload_n hx hb dX5_repeat_74 rfl (lv_at hl 1 rfl) ?_
        refine lv_iload hx hb dX5_repeat_75 (lv_at hl 3 rfl) ?_
        refine n_iadd hx hb dX5_repeat_77 ?_
        refine n_bald hx hb hK hP 1 0 rfl rfl (by omega) (by omega) dX5_repeat_78 ?_
        refine n_bast hx hb hK hP hD hS 1 0 rfl rfl (by omega) (by omega) dX5_repeat_79 (fun H locs hP hD hS => ?_)
        have hP : va_P D vwCl [(x0, .inr (1, [.ref t1, .ref k1, .ref o1, .int (nI y), .int ln, .int (nI bk)])), (t1, .inl (d0, 16384, .inl (upd h y (vp_nar .byte (h ((um v % z1) + i))))))] H := hP
        have hD : va_D A [(x0, .inr (1, [.ref t1, .ref k1, .ref o1, .int (nI y), .int ln, .int (nI bk)])), (t1, .inl (d0, 16384, .inl (upd h y (vp_nar .byte (h ((um v % z1) + i))))))] := hD
        refine lv_aload_n hx hb dX5_repeat_80 rfl (lv_at hl 0 rfl) ?_
        refine lv_aload_n hx hb dX5_repeat_81 rfl (lv_at hl 0 rfl) ?_
        refine va_get (D := D) (ci := 1) (v := .int (nI y)) (C := RX5) (T := TX5) (N := 6) hx hb hts in_X5 hown hK hP 0 rfl rfl 3 (by decide) (hts _ q629) (fun _ h9 => h9) rfl dX5_repeat_82 ?_
        refine lv_iconst (v := nI 1) hx hb dX5_repeat_85 (by decide +kernel) ?_
        refine n_iadd hx hb dX5_repeat_86 ?_
        refine va_put (D := D) (ci := 1) (v := .int (nI (y + 1))) (ty := .int) (C := RX5) (T := TX5) (N := 6) hx hb hts in_X5 tyX5 tyX5_ok nmX5 hown hK hP hD hS 0 rfl rfl 3 (by decide) (hts _ q629) (fun _ h9 => h9) rfl (by decide +kernel) rfl rfl (Nat.le_of_ble_eq_true rfl) dX5_repeat_87 (fun H locs hP hD hS => ?_)
        have hP : va_P D vwCl [(x0, .inr (1, [.ref t1, .ref k1, .ref o1, .int (nI (y + 1)), .int ln, .int (nI bk)])), (t1, .inl (d0, 16384, .inl (upd h y (vp_nar .byte (h ((um v % z1) + i))))))] H := hP
        have hD : va_D A [(x0, .inr (1, [.ref t1, .ref k1, .ref o1, .int (nI (y + 1)), .int ln, .int (nI bk)])), (t1, .inl (d0, 16384, .inl (upd h y (vp_nar .byte (h ((um v % z1) + i))))))] := hD
        refine lv_iinc (v := nI (i + 1)) (lv' := [(5, .int (nI (i + 1))), (0, .ref x0), (3, .int (nI (um v % z1))), (4, .int (nI (cap z1 (um w % 1025))))]) hx hb dX5_repeat_90 hl (k := 3) rfl (n_inc _ 1 (by decide +kernel)) (by decide) rfl (fun ls hl => ?_)
        refine lv_goto (tgt := 55) hx hb dX5_repeat_93 (by decide) ?_
        exact ih (cap z1 (um w % 1025) - (i + 1)) (by omega) _ _ _ _ _ ⟨i + 1, upd h (y) (vp_nar .byte (h (um v % z1 + i))), y + 1, rfl, by omega, fun j hj => by rw [pk_un (by omega)]; exact hk1 j hj, (by rw [hy]; exact inc_step hf hk2 hh), aB_upd hh (bB_nar _), by omega, (lv_sub hl [1, 2, 3, 0] rfl), hP, hD, hS, rfl, rfl⟩
    · refine n_icmp_le (tgt := 52) hx hb dX5_repeat_39 (by decide) (by omega) (by omega) (fun c__3 => ?_) (fun c__3 => ?_)
      · have e0 : cap z1 (um w % 1025) = um w % 1025 := if_pos (by omega)
        exact K _ _ _ _ _ ⟨by rw [e0]; exact (lv_sub hl [2, 1, 0] rfl), hP, hD, hS, rfl, rfl⟩
      · refine lv_sipush (v := nI 16384) hx hb dX5_repeat_42 (by decide +kernel) ?_
        refine lv_aload_n hx hb dX5_repeat_45 rfl (lv_at hl 2 rfl) ?_
        refine va_get (D := D) (ci := 1) (v := .int (nI z1)) (C := RX5) (T := TX5) (N := 6) hx hb hts in_X5 hown hK hP 0 rfl rfl 3 (by decide) (hts _ q629) (fun _ h9 => h9) rfl dX5_repeat_46 ?_
        refine n_isub hx hb dX5_repeat_49 (by omega) ?_
        refine lv_istore (lv' := [(4, .int (nI (16384 - z1))), (3, .int (nI ((um v) % z1))), (0, .ref x0), (1, .int v), (2, .int w)]) hx hb dX5_repeat_50 hl (by decide) rfl (fun ls hl => ?_)
        have e0 : cap z1 (um w % 1025) = 16384 - z1 := if_neg (by omega)
        exact K _ _ _ _ _ ⟨by rw [e0]; exact (lv_sub hl [2, 1, 0] rfl), hP, hD, hS, rfl, rfl⟩
  · refine lv_iconst (v := -1) hx hb dX5_repeat_7 (by decide +kernel) ?_
    exact W.iret (v := (-1)) hx hb hr (fun t ht hW => ⟨⟨(-1), (g, z1), rfl, ⟨fun _ => ⟨rfl, rfl⟩, fun h9 => absurd c__1 h9⟩, n_hP ht hP⟩, hS.F ht⟩) hS.2.2 dX5_repeat_8
end
section
/-! put, pack, open of both classes -/
/-- byte i of a word, the high one first -/
def wb (v : Int32) (i : Nat) : Int32 := ((v.toUInt32 >>> ((nI (24 - 8 * i)).toUInt32 &&& Int32.toUInt32 31)).toInt32).toInt8.toInt32
def pb (a b c d : Int32) (k : Nat) : Int32 := wb (if k < 4 then a else if k < 8 then b else if k < 12 then c else d) (k % 4)
theorem pb_at {a b c d v : Int32} (k : Nat) (h : (if k < 4 then a else if k < 8 then b else if k < 12 then c else d) = v) : pb a b c d k = wb v (k % 4) := by
  unfold pb
  rw [h]
theorem pb_0 {a b c d : Int32} {k : Nat} (h : k < 4) : pb a b c d k = wb a k := by
  rw [pb_at k (if_pos h), Nat.mod_eq_of_lt h]
theorem pb_1 {a b c d : Int32} {k : Nat} (h : 4 ≤ k ∧ k < 8) : pb a b c d k = wb b (k - 4) := by
  rw [pb_at k (v := b) (by rw [if_neg (by omega), if_pos (by omega)]), show k % 4 = k - 4 by omega]
theorem pb_2 {a b c d : Int32} {k : Nat} (h : 8 ≤ k ∧ k < 12) : pb a b c d k = wb c (k - 8) := by
  rw [pb_at k (v := c) (by rw [if_neg (by omega), if_neg (by omega), if_pos (by omega)]), show k % 4 = k - 8 by omega]
theorem pb_3 {a b c d : Int32} {k : Nat} (h : 12 ≤ k ∧ k < 16) : pb a b c d k = wb d (k - 12) := by
  rw [pb_at k (v := d) (by rw [if_neg (by omega), if_neg (by omega), if_neg (by omega)]), show k % 4 = k - 12 by omega]
def bt (x : Int32) (i : Nat) : Bool := x.toBitVec.getLsbD i
theorem s_l : ∀ n, n < 32 → ((nI n &&& 31).toBitVec.smod 32).toNat = n := by decide +kernel
theorem s_u : ∀ n, n < 32 → (((nI n).toUInt32 &&& Int32.toUInt32 31).toBitVec % 32).toNat = n := by decide +kernel
theorem b_ushr (n : Nat) (hn : n < 32) (x : Int32) (i : Nat) : bt ((x.toUInt32 >>> ((nI n).toUInt32 &&& Int32.toUInt32 31)).toInt32) i = bt x (n + i) := by
  show (x.toUInt32 >>> ((nI n).toUInt32 &&& Int32.toUInt32 31)).toBitVec.getLsbD i = x.toUInt32.toBitVec.getLsbD (n + i)
  rw [UInt32.toBitVec_shiftRight]
  show (x.toUInt32.toBitVec >>> (((nI n).toUInt32 &&& Int32.toUInt32 31).toBitVec % 32).toNat).getLsbD i = _
  rw [s_u n hn, BitVec.getLsbD_ushiftRight]
theorem b_sshr (n : Nat) (hn : n < 32) (x : Int32) {i : Nat} (hi : i < 32) : bt (x >>> (nI n &&& 31)) i = if n + i < 32 then bt x (n + i) else bt x 31 := by
  unfold bt
  rw [Int32.toBitVec_shiftRight]
  show (x.toBitVec.sshiftRight ((nI n &&& 31).toBitVec.smod 32).toNat).getLsbD i = _
  rw [s_l n hn, BitVec.getLsbD_sshiftRight, BitVec.msb_eq_getLsbD_last]
  simp [hi]
theorem lo8 {x y : Int32} (h : ∀ i : Nat, i < 8 → bt x i = bt y i) : x.toInt8.toInt32 = y.toInt8.toInt32 := by
  have e : x.toInt8 = y.toInt8 := by
    apply Int8.toBitVec_inj.mp
    rw [Int32.toBitVec_toInt8, Int32.toBitVec_toInt8, BitVec.signExtend_eq_setWidth_of_le _ (by decide), BitVec.signExtend_eq_setWidth_of_le _ (by decide)]
    apply BitVec.eq_of_getLsbD_eq
    intro i hi
    rw [BitVec.getLsbD_setWidth, BitVec.getLsbD_setWidth]
    have h1 := h i hi
    unfold bt at h1
    rw [h1]
  rw [e]
theorem wb_s (v : Int32) (i : Nat) (h : i < 4) : (v >>> (nI (24 - 8 * i) &&& 31)).toInt8.toInt32 = wb v i := by
  unfold wb
  refine lo8 fun j hj => ?_
  rw [b_sshr _ (by omega) v (by omega), b_ushr _ (by omega), if_pos (by omega)]
theorem wb_3 (v : Int32) : v.toInt8.toInt32 = wb v 3 := by
  unfold wb
  refine lo8 fun j hj => ?_
  rw [b_ushr _ (by omega), show 24 - 8 * 3 + j = j by omega]
theorem nI_ne_m1 {n : Nat} (h : n < 2147483648) : ¬ nI n = -1 := by
  intro q
  have h1 := nI_toInt (n := n) h
  rw [q] at h1
  have h2 : (-1 : Int32).toInt = -1 := by decide
  omega
/-- what a call through an object of a known class asks, the named method being one without a body -/
theorem lw_U {own : String} {idx : Nat} {C owner : String} {x y : MethodName} {b : ByteArray} {L : Nat} {r : Option FieldType} (h1 : Cond.methodLink own idx x ∈ lw_all) (h2 : Cond.sameMethod x.cls owner x.name x.desc ∈ lw_all) (h3 : Cond.selects C x y ∈ lw_all) (h4 : Cond.instanceMethod y ∈ lw_all) (h5 : Cond.initialized y.cls ∈ lw_all) (h6 : Cond.code y b L r ∈ lw_all) : GoodIn lw_all (va_wsU own idx C owner x y (ws_ y b L r)) := by
  refine lw_app ?_ (lw_meth h6)
  intro w hw
  simp only [List.mem_cons, List.not_mem_nil, or_false] at hw
  rcases hw with e | e | e | e | e
  · rw [e]; exact h1
  · rw [e]; exact h2
  · rw [e]; exact h3
  · rw [e]; exact h4
  · rw [e]; exact h5

set_option maxHeartbeats 4000000 in
set_option maxRecDepth 100000 in
theorem mx_word (l : Launch) (D : va_G) (x0 c1 c2 t1 k1 o1 : Nat) (z1 : Nat) (ln : Int32) (bk : Nat) (d0 : ClassId) (g : Nat → Int32) (q : Nat) (v : Int32) (hq : q + 3 < 16384) (hg : aB g) (sz : Nat) : Met l yX0_word (ws_ yX0_word cX0_word 3 (none)) ({ frames := 1, cells := 0, slots := 0, locals := 100 }) (pcW [.ref x0, .int (nI q), .int v] D vwCl [(x0, .inr (0, [.ref c1, .ref c2, .ref t1, .ref k1, .ref o1, .int (nI z1), .int ln, .int (nI bk)])), (t1, .inl (d0, 16384, .inl g))] [(d0, .byte)] sz) (va_Qv (fun (u : Nat → Int32) => (∀ j : Nat, j < q → u j = g j) ∧ (∀ i : Nat, i < 4 → u (q + i) = wb v i) ∧ aB u) (fun (u : Nat → Int32) t => va_P D vwCl [(x0, .inr (0, [.ref c1, .ref c2, .ref t1, .ref k1, .ref o1, .int (nI z1), .int ln, .int (nI bk)])), (t1, .inl (d0, 16384, .inl u))] t.heap) (va_A [(x0, .inr (0, [.ref c1, .ref c2, .ref t1, .ref k1, .ref o1, .int (nI z1), .int ln, .int (nI bk)])), (t1, .inl (d0, 16384, .inl g))] sz)) 0 0 (va_A [(x0, .inr (0, [.ref c1, .ref c2, .ref t1, .ref k1, .ref o1, .int (nI z1), .int ln, .int (nI bk)])), (t1, .inl (d0, 16384, .inl g))] sz) := by
  refine n_metW (Qc := fun A => va_Qv (fun (u : Nat → Int32) => (∀ j : Nat, j < q → u j = g j) ∧ (∀ i : Nat, i < 4 → u (q + i) = wb v i) ∧ aB u) (fun (u : Nat → Int32) t => va_P D vwCl [(x0, .inr (0, [.ref c1, .ref c2, .ref t1, .ref k1, .ref o1, .int (nI z1), .int ln, .int (nI bk)])), (t1, .inl (d0, 16384, .inl u))] t.heap) A) (by decide) (Nat.le_of_ble_eq_true rfl) ?_
  intro p e s m below meth c hx hb hr hlocks hml hown hin hts hP hK A hsz hD hA hS ls hl
  have hown : s.vm.findClass "BlockPacker" = some m.cls := hown
  have hl : lv_has ls 3 [(0, .ref x0), (1, .int (nI q)), (2, .int v)] := hl
  refine lv_aload_n hx hb dX0_word_0 rfl (lv_at hl 0 rfl) ?_
  refine va_get (D := D) (ci := 0) (v := .ref t1) (C := RX0) (T := TX0) (N := 8) hx hb hts in_X0 hown hK hP 0 rfl rfl 2 (by decide) (hts _ q63) (fun _ h9 => h9) rfl dX0_word_1 ?_
  refine lv_iload_n hx hb dX0_word_4 rfl (lv_at hl 1 rfl) ?_
  refine lv_iload_n hx hb dX0_word_5 rfl (lv_at hl 2 rfl) ?_
  refine lv_bipush (v := nI 24) hx hb dX0_word_6 (by decide +kernel) ?_
  refine lv_ishr hx hb dX0_word_8 ?_
  refine lv_i2b hx hb dX0_word_9 rfl ?_
  refine n_bast hx hb hK hP hD hS 1 0 rfl rfl (by omega) (by omega) dX0_word_10 (fun H locs hP hD hS => ?_)
  have hP : va_P D vwCl [(x0, .inr (0, [.ref c1, .ref c2, .ref t1, .ref k1, .ref o1, .int (nI z1), .int ln, .int (nI bk)])), (t1, .inl (d0, 16384, .inl (upd g q (vp_nar .byte ((v >>> (((nI 24) &&& 31))).toInt8.toInt32)))))] H := hP
  have hD : va_D A [(x0, .inr (0, [.ref c1, .ref c2, .ref t1, .ref k1, .ref o1, .int (nI z1), .int ln, .int (nI bk)])), (t1, .inl (d0, 16384, .inl (upd g q (vp_nar .byte ((v >>> (((nI 24) &&& 31))).toInt8.toInt32)))))] := hD
  refine lv_aload_n hx hb dX0_word_11 rfl (lv_at hl 0 rfl) ?_
  refine va_get (D := D) (ci := 0) (v := .ref t1) (C := RX0) (T := TX0) (N := 8) hx hb hts in_X0 hown hK hP 0 rfl rfl 2 (by decide) (hts _ q63) (fun _ h9 => h9) rfl dX0_word_12 ?_
  refine lv_iload_n hx hb dX0_word_15 rfl (lv_at hl 1 rfl) ?_
  refine lv_iconst (v := nI 1) hx hb dX0_word_16 (by decide +kernel) ?_
  refine n_iadd hx hb dX0_word_17 ?_
  refine lv_iload_n hx hb dX0_word_18 rfl (lv_at hl 2 rfl) ?_
  refine lv_bipush (v := nI 16) hx hb dX0_word_19 (by decide +kernel) ?_
  refine lv_ishr hx hb dX0_word_21 ?_
  refine lv_i2b hx hb dX0_word_22 rfl ?_
  refine n_bast hx hb hK hP hD hS 1 0 rfl rfl (by omega) (by omega) dX0_word_23 (fun H locs hP hD hS => ?_)
  have hP : va_P D vwCl [(x0, .inr (0, [.ref c1, .ref c2, .ref t1, .ref k1, .ref o1, .int (nI z1), .int ln, .int (nI bk)])), (t1, .inl (d0, 16384, .inl (upd (upd g q (vp_nar .byte ((v >>> (((nI 24) &&& 31))).toInt8.toInt32))) (q + 1) (vp_nar .byte ((v >>> (((nI 16) &&& 31))).toInt8.toInt32)))))] H := hP
  have hD : va_D A [(x0, .inr (0, [.ref c1, .ref c2, .ref t1, .ref k1, .ref o1, .int (nI z1), .int ln, .int (nI bk)])), (t1, .inl (d0, 16384, .inl (upd (upd g q (vp_nar .byte ((v >>> (((nI 24) &&& 31))).toInt8.toInt32))) (q + 1) (vp_nar .byte ((v >>> (((nI 16) &&& 31))).toInt8.toInt32)))))] := hD
  refine lv_aload_n hx hb dX0_word_24 rfl (lv_at hl 0 rfl) ?_
  refine va_get (D := D) (ci := 0) (v := .ref t1) (C := RX0) (T := TX0) (N := 8) hx hb hts in_X0 hown hK hP 0 rfl rfl 2 (by decide) (hts _ q63) (fun _ h9 => h9) rfl dX0_word_25 ?_
  refine lv_iload_n hx hb dX0_word_28 rfl (lv_at hl 1 rfl) ?_
  refine lv_iconst (v := nI 2) hx hb dX0_word_29 (by decide +kernel) ?_
  refine n_iadd hx hb dX0_word_30 ?_
  refine lv_iload_n hx hb dX0_word_31 rfl (lv_at hl 2 rfl) ?_
  refine lv_bipush (v := nI 8) hx hb dX0_word_32 (by decide +kernel) ?_
  refine lv_ishr hx hb dX0_word_34 ?_
  refine lv_i2b hx hb dX0_word_35 rfl ?_
  refine n_bast hx hb hK hP hD hS 1 0 rfl rfl (by omega) (by omega) dX0_word_36 (fun H locs hP hD hS => ?_)
  have hP : va_P D vwCl [(x0, .inr (0, [.ref c1, .ref c2, .ref t1, .ref k1, .ref o1, .int (nI z1), .int ln, .int (nI bk)])), (t1, .inl (d0, 16384, .inl (upd (upd (upd g q (vp_nar .byte ((v >>> (((nI 24) &&& 31))).toInt8.toInt32))) (q + 1) (vp_nar .byte ((v >>> (((nI 16) &&& 31))).toInt8.toInt32))) (q + 2) (vp_nar .byte ((v >>> (((nI 8) &&& 31))).toInt8.toInt32)))))] H := hP
  have hD : va_D A [(x0, .inr (0, [.ref c1, .ref c2, .ref t1, .ref k1, .ref o1, .int (nI z1), .int ln, .int (nI bk)])), (t1, .inl (d0, 16384, .inl (upd (upd (upd g q (vp_nar .byte ((v >>> (((nI 24) &&& 31))).toInt8.toInt32))) (q + 1) (vp_nar .byte ((v >>> (((nI 16) &&& 31))).toInt8.toInt32))) (q + 2) (vp_nar .byte ((v >>> (((nI 8) &&& 31))).toInt8.toInt32)))))] := hD
  refine lv_aload_n hx hb dX0_word_37 rfl (lv_at hl 0 rfl) ?_
  refine va_get (D := D) (ci := 0) (v := .ref t1) (C := RX0) (T := TX0) (N := 8) hx hb hts in_X0 hown hK hP 0 rfl rfl 2 (by decide) (hts _ q63) (fun _ h9 => h9) rfl dX0_word_38 ?_
  refine lv_iload_n hx hb dX0_word_41 rfl (lv_at hl 1 rfl) ?_
  refine lv_iconst (v := nI 3) hx hb dX0_word_42 (by decide +kernel) ?_
  refine n_iadd hx hb dX0_word_43 ?_
  refine lv_iload_n hx hb dX0_word_44 rfl (lv_at hl 2 rfl) ?_
  refine lv_i2b hx hb dX0_word_45 rfl ?_
  refine n_bast hx hb hK hP hD hS 1 0 rfl rfl (by omega) (by omega) dX0_word_46 (fun H locs hP hD hS => ?_)
  have hP : va_P D vwCl [(x0, .inr (0, [.ref c1, .ref c2, .ref t1, .ref k1, .ref o1, .int (nI z1), .int ln, .int (nI bk)])), (t1, .inl (d0, 16384, .inl (upd (upd (upd (upd g q (vp_nar .byte ((v >>> (((nI 24) &&& 31))).toInt8.toInt32))) (q + 1) (vp_nar .byte ((v >>> (((nI 16) &&& 31))).toInt8.toInt32))) (q + 2) (vp_nar .byte ((v >>> (((nI 8) &&& 31))).toInt8.toInt32))) (q + 3) (vp_nar .byte ((v).toInt8.toInt32)))))] H := hP
  have hD : va_D A [(x0, .inr (0, [.ref c1, .ref c2, .ref t1, .ref k1, .ref o1, .int (nI z1), .int ln, .int (nI bk)])), (t1, .inl (d0, 16384, .inl (upd (upd (upd (upd g q (vp_nar .byte ((v >>> (((nI 24) &&& 31))).toInt8.toInt32))) (q + 1) (vp_nar .byte ((v >>> (((nI 16) &&& 31))).toInt8.toInt32))) (q + 2) (vp_nar .byte ((v >>> (((nI 8) &&& 31))).toInt8.toInt32))) (q + 3) (vp_nar .byte ((v).toInt8.toInt32)))))] := hD
  have hpost : (∀ j : Nat, j < q → (upd (upd (upd (upd g q (vp_nar .byte ((v >>> (((nI 24) &&& 31))).toInt8.toInt32))) (q + 1) (vp_nar .byte ((v >>> (((nI 16) &&& 31))).toInt8.toInt32))) (q + 2) (vp_nar .byte ((v >>> (((nI 8) &&& 31))).toInt8.toInt32))) (q + 3) (vp_nar .byte ((v).toInt8.toInt32))) j = g j) ∧ (∀ i : Nat, i < 4 → (upd (upd (upd (upd g q (vp_nar .byte ((v >>> (((nI 24) &&& 31))).toInt8.toInt32))) (q + 1) (vp_nar .byte ((v >>> (((nI 16) &&& 31))).toInt8.toInt32))) (q + 2) (vp_nar .byte ((v >>> (((nI 8) &&& 31))).toInt8.toInt32))) (q + 3) (vp_nar .byte ((v).toInt8.toInt32))) (q + i) = wb v i) ∧ aB (upd (upd (upd (upd g q (vp_nar .byte ((v >>> (((nI 24) &&& 31))).toInt8.toInt32))) (q + 1) (vp_nar .byte ((v >>> (((nI 16) &&& 31))).toInt8.toInt32))) (q + 2) (vp_nar .byte ((v >>> (((nI 8) &&& 31))).toInt8.toInt32))) (q + 3) (vp_nar .byte ((v).toInt8.toInt32))) := by
    refine ⟨fun j hj => by rw [pk_un (by omega), pk_un (by omega), pk_un (by omega), pk_un (by omega)], fun i hi => ?_, aB_upd (aB_upd (aB_upd (aB_upd hg (bB_nar _)) (bB_nar _)) (bB_nar _)) (bB_nar _)⟩
    rcases (show i = 0 ∨ i = 1 ∨ i = 2 ∨ i = 3 by omega) with rfl | rfl | rfl | rfl
    · rw [pk_un (by omega), pk_un (by omega), pk_un (by omega), Nat.add_zero, pk_us, pk_vb]; exact wb_s v 0 (by omega)
    · rw [pk_un (by omega), pk_un (by omega), pk_us, pk_vb]; exact wb_s v 1 (by omega)
    · rw [pk_un (by omega), pk_us, pk_vb]; exact wb_s v 2 (by omega)
    · rw [pk_us, pk_vb]; exact wb_3 v
  exact W.vret hx hb hr (fun t ht hW => ⟨⟨_, rfl, hpost, n_hP ht hP⟩, hS.F ht⟩) hS.2.2 dX0_word_47

set_option maxHeartbeats 4000000 in
set_option maxRecDepth 100000 in
theorem mx_put_x (l : Launch) (D : va_G) (x0 c1 c2 t1 k1 o1 : Nat) (z1 : Nat) (ln : Int32) (bk : Nat) (d0 : ClassId) (g : Nat → Int32) (v0 v1 v2 v3 : Int32) (hz : z1 ≤ 16384) (hg : aB g) (sz : Nat) : Met l yX0_put (ws_ yX0_put cX0_put 5 (some .boolean)) ({ frames := 2, cells := 0, slots := 0, locals := 200 }) (pcW [.ref x0, .int v0, .int v1, .int v2, .int v3] D vwCl [(x0, .inr (0, [.ref c1, .ref c2, .ref t1, .ref k1, .ref o1, .int (nI z1), .int ln, .int (nI bk)])), (t1, .inl (d0, 16384, .inl g))] [(d0, .byte)] sz) (va_Qi (fun (r : Int32) (u : (Nat → Int32) × Nat) => (16384 < z1 + 16 → r = 0 ∧ u = (g, z1)) ∧ (z1 + 16 ≤ 16384 → r = 1 ∧ u.2 = z1 + 16 ∧ (∀ j : Nat, j < z1 → u.1 j = g j) ∧ (∀ k : Nat, k < 16 → u.1 (z1 + k) = pb v0 v1 v2 v3 k) ∧ aB u.1)) (fun (u : (Nat → Int32) × Nat) t => va_P D vwCl [(x0, .inr (0, [.ref c1, .ref c2, .ref t1, .ref k1, .ref o1, .int (nI u.2), .int ln, .int (nI bk)])), (t1, .inl (d0, 16384, .inl u.1))] t.heap) (va_A [(x0, .inr (0, [.ref c1, .ref c2, .ref t1, .ref k1, .ref o1, .int (nI z1), .int ln, .int (nI bk)])), (t1, .inl (d0, 16384, .inl g))] sz)) 0 0 (va_A [(x0, .inr (0, [.ref c1, .ref c2, .ref t1, .ref k1, .ref o1, .int (nI z1), .int ln, .int (nI bk)])), (t1, .inl (d0, 16384, .inl g))] sz) := by
  refine n_metW (Qc := fun A => va_Qi (fun (r : Int32) (u : (Nat → Int32) × Nat) => (16384 < z1 + 16 → r = 0 ∧ u = (g, z1)) ∧ (z1 + 16 ≤ 16384 → r = 1 ∧ u.2 = z1 + 16 ∧ (∀ j : Nat, j < z1 → u.1 j = g j) ∧ (∀ k : Nat, k < 16 → u.1 (z1 + k) = pb v0 v1 v2 v3 k) ∧ aB u.1)) (fun (u : (Nat → Int32) × Nat) t => va_P D vwCl [(x0, .inr (0, [.ref c1, .ref c2, .ref t1, .ref k1, .ref o1, .int (nI u.2), .int ln, .int (nI bk)])), (t1, .inl (d0, 16384, .inl u.1))] t.heap) A) (by decide) (Nat.le_of_ble_eq_true rfl) ?_
  intro p e s m below meth c hx hb hr hlocks hml hown hin hts hP hK A hsz hD hA hS ls hl
  have hown : s.vm.findClass "BlockPacker" = some m.cls := hown
  have hl : lv_has ls 5 [(0, .ref x0), (1, .int v0), (2, .int v1), (3, .int v2), (4, .int v3)] := hl
  refine lv_aload_n hx hb dX0_put_0 rfl (lv_at hl 0 rfl) ?_
  refine va_get (D := D) (ci := 0) (v := .int (nI z1)) (C := RX0) (T := TX0) (N := 8) hx hb hts in_X0 hown hK hP 0 rfl rfl 5 (by decide) (hts _ q66) (fun _ h9 => h9) rfl dX0_put_1 ?_
  refine lv_aload_n hx hb dX0_put_4 rfl (lv_at hl 0 rfl) ?_
  refine va_get (D := D) (ci := 0) (v := .ref t1) (C := RX0) (T := TX0) (N := 8) hx hb hts in_X0 hown hK hP 0 rfl rfl 2 (by decide) (hts _ q63) (fun _ h9 => h9) rfl dX0_put_5 ?_
  refine va_alen (v := nI 16384) hx hb hK hP 1 0 rfl rfl rfl dX0_put_8 ?_
  refine lv_bipush (v := nI 16) hx hb dX0_put_9 (by decide +kernel) ?_
  refine n_isub hx hb dX0_put_11 (by omega) ?_
  refine n_icmp_le (tgt := 17) hx hb dX0_put_12 (by decide) (by omega) (by omega) (fun c__1 => ?_) (fun c__1 => ?_)
  · refine lv_aload_n hx hb dX0_put_17 rfl (lv_at hl 0 rfl) ?_
    refine lv_aload_n hx hb dX0_put_18 rfl (lv_at hl 0 rfl) ?_
    refine va_get (D := D) (ci := 0) (v := .int (nI z1)) (C := RX0) (T := TX0) (N := 8) hx hb hts in_X0 hown hK hP 0 rfl rfl 5 (by decide) (hts _ q66) (fun _ h9 => h9) rfl dX0_put_19 ?_
    refine lv_iload_n hx hb dX0_put_22 rfl (lv_at hl 1 rfl) ?_
    refine n_callv (va_runV (As := [.int (nI z1), .int v0]) (rest := []) ⟨hx, hb, hml, hown, hts⟩ (mx_word l D x0 c1 c2 t1 k1 o1 z1 ln bk d0 g z1 v0 (by omega) hg s.heap.size) (cwV 2 hts (lw_V q91 q93 qs0 q3 q94) rfl rfl rfl (by decide +kernel) ⟨Nat.le_of_ble_eq_true rfl, Nat.le_of_ble_eq_true rfl⟩) (pcW_preV (hP.sub [0, 1] rfl) (hK.sub [0] rfl) (hD.sub [0, 1] (by decide) rfl) (va_recv hK hP (ci := 0) (q0 := 0) rfl rfl)) rfl rfl hl.1 rfl (lv_room (Nat.le_of_ble_eq_true rfl)) dX0_put_23 ⟨Nat.le_of_ble_eq_true rfl, Nat.le_of_ble_eq_true rfl⟩) hP hD hS hA [0, 1] rfl (fun _ => rfl) (fun g1 H locs hw1 hP hD hS => ?_)
    have hP : va_P D vwCl [(x0, .inr (0, [.ref c1, .ref c2, .ref t1, .ref k1, .ref o1, .int (nI z1), .int ln, .int (nI bk)])), (t1, .inl (d0, 16384, .inl g1))] H := hP
    have hD : va_D A [(x0, .inr (0, [.ref c1, .ref c2, .ref t1, .ref k1, .ref o1, .int (nI z1), .int ln, .int (nI bk)])), (t1, .inl (d0, 16384, .inl g1))] := hD
    obtain ⟨ha1, hb1, hg1⟩ := hw1
    refine lv_aload_n hx hb dX0_put_26 rfl (lv_at hl 0 rfl) ?_
    refine lv_aload_n hx hb dX0_put_27 rfl (lv_at hl 0 rfl) ?_
    refine va_get (D := D) (ci := 0) (v := .int (nI z1)) (C := RX0) (T := TX0) (N := 8) hx hb hts in_X0 hown hK hP 0 rfl rfl 5 (by decide) (hts _ q66) (fun _ h9 => h9) rfl dX0_put_28 ?_
    refine lv_iconst (v := nI 4) hx hb dX0_put_31 (by decide +kernel) ?_
    refine n_iadd hx hb dX0_put_32 ?_
    refine lv_iload_n hx hb dX0_put_33 rfl (lv_at hl 2 rfl) ?_
    refine n_callv (va_runV (As := [.int (nI (z1 + 4)), .int v1]) (rest := []) ⟨hx, hb, hml, hown, hts⟩ (mx_word l D x0 c1 c2 t1 k1 o1 z1 ln bk d0 g1 (z1 + 4) v1 (by omega) hg1 H.size) (cwV 2 hts (lw_V q91 q93 qs0 q3 q94) rfl rfl rfl (by decide +kernel) ⟨Nat.le_of_ble_eq_true rfl, Nat.le_of_ble_eq_true rfl⟩) (pcW_preV (hP.sub [0, 1] rfl) (hK.sub [0] rfl) (hD.sub [0, 1] (by decide) rfl) (va_recv hK hP (ci := 0) (q0 := 0) rfl rfl)) rfl rfl hl.1 rfl (lv_room (Nat.le_of_ble_eq_true rfl)) dX0_put_34 ⟨Nat.le_of_ble_eq_true rfl, Nat.le_of_ble_eq_true rfl⟩) hP hD hS hA [0, 1] rfl (fun _ => rfl) (fun g2 H locs hw2 hP hD hS => ?_)
    have hP : va_P D vwCl [(x0, .inr (0, [.ref c1, .ref c2, .ref t1, .ref k1, .ref o1, .int (nI z1), .int ln, .int (nI bk)])), (t1, .inl (d0, 16384, .inl g2))] H := hP
    have hD : va_D A [(x0, .inr (0, [.ref c1, .ref c2, .ref t1, .ref k1, .ref o1, .int (nI z1), .int ln, .int (nI bk)])), (t1, .inl (d0, 16384, .inl g2))] := hD
    obtain ⟨ha2, hb2, hg2⟩ := hw2
    refine lv_aload_n hx hb dX0_put_37 rfl (lv_at hl 0 rfl) ?_
    refine lv_aload_n hx hb dX0_put_38 rfl (lv_at hl 0 rfl) ?_
    refine va_get (D := D) (ci := 0) (v := .int (nI z1)) (C := RX0) (T := TX0) (N := 8) hx hb hts in_X0 hown hK hP 0 rfl rfl 5 (by decide) (hts _ q66) (fun _ h9 => h9) rfl dX0_put_39 ?_
    refine lv_bipush (v := nI 8) hx hb dX0_put_42 (by decide +kernel) ?_
    refine n_iadd hx hb dX0_put_44 ?_
    refine lv_iload_n hx hb dX0_put_45 rfl (lv_at hl 3 rfl) ?_
    refine n_callv (va_runV (As := [.int (nI (z1 + 8)), .int v2]) (rest := []) ⟨hx, hb, hml, hown, hts⟩ (mx_word l D x0 c1 c2 t1 k1 o1 z1 ln bk d0 g2 (z1 + 8) v2 (by omega) hg2 H.size) (cwV 2 hts (lw_V q91 q93 qs0 q3 q94) rfl rfl rfl (by decide +kernel) ⟨Nat.le_of_ble_eq_true rfl, Nat.le_of_ble_eq_true rfl⟩) (pcW_preV (hP.sub [0, 1] rfl) (hK.sub [0] rfl) (hD.sub [0, 1] (by decide) rfl) (va_recv hK hP (ci := 0) (q0 := 0) rfl rfl)) rfl rfl hl.1 rfl (lv_room (Nat.le_of_ble_eq_true rfl)) dX0_put_46 ⟨Nat.le_of_ble_eq_true rfl, Nat.le_of_ble_eq_true rfl⟩) hP hD hS hA [0, 1] rfl (fun _ => rfl) (fun g3 H locs hw3 hP hD hS => ?_)
    have hP : va_P D vwCl [(x0, .inr (0, [.ref c1, .ref c2, .ref t1, .ref k1, .ref o1, .int (nI z1), .int ln, .int (nI bk)])), (t1, .inl (d0, 16384, .inl g3))] H := hP
    have hD : va_D A [(x0, .inr (0, [.ref c1, .ref c2, .ref t1, .ref k1, .ref o1, .int (nI z1), .int ln, .int (nI bk)])), (t1, .inl (d0, 16384, .inl g3))] := hD
    obtain ⟨ha3, hb3, hg3⟩ := hw3
    refine lv_aload_n hx hb dX0_put_49 rfl (lv_at hl 0 rfl) ?_
    refine lv_aload_n hx hb dX0_put_50 rfl (lv_at hl 0 rfl) ?_
    refine va_get (D := D) (ci := 0) (v := .int (nI z1)) (C := RX0) (T := TX0) (N := 8) hx hb hts in_X0 hown hK hP 0 rfl rfl 5 (by decide) (hts _ q66) (fun _ h9 => h9) rfl dX0_put_51 ?_
    refine lv_bipush (v := nI 12) hx hb dX0_put_54 (by decide +kernel) ?_
    refine n_iadd hx hb dX0_put_56 ?_
    refine lv_iload hx hb dX0_put_57 (lv_at hl 4 rfl) ?_
    refine n_callv (va_runV (As := [.int (nI (z1 + 12)), .int v3]) (rest := []) ⟨hx, hb, hml, hown, hts⟩ (mx_word l D x0 c1 c2 t1 k1 o1 z1 ln bk d0 g3 (z1 + 12) v3 (by omega) hg3 H.size) (cwV 2 hts (lw_V q91 q93 qs0 q3 q94) rfl rfl rfl (by decide +kernel) ⟨Nat.le_of_ble_eq_true rfl, Nat.le_of_ble_eq_true rfl⟩) (pcW_preV (hP.sub [0, 1] rfl) (hK.sub [0] rfl) (hD.sub [0, 1] (by decide) rfl) (va_recv hK hP (ci := 0) (q0 := 0) rfl rfl)) rfl rfl hl.1 rfl (lv_room (Nat.le_of_ble_eq_true rfl)) dX0_put_59 ⟨Nat.le_of_ble_eq_true rfl, Nat.le_of_ble_eq_true rfl⟩) hP hD hS hA [0, 1] rfl (fun _ => rfl) (fun g4 H locs hw4 hP hD hS => ?_)
    have hP : va_P D vwCl [(x0, .inr (0, [.ref c1, .ref c2, .ref t1, .ref k1, .ref o1, .int (nI z1), .int ln, .int (nI bk)])), (t1, .inl (d0, 16384, .inl g4))] H := hP
    have hD : va_D A [(x0, .inr (0, [.ref c1, .ref c2, .ref t1, .ref k1, .ref o1, .int (nI z1), .int ln, .int (nI bk)])), (t1, .inl (d0, 16384, .inl g4))] := hD
    obtain ⟨ha4, hb4, hg4⟩ := hw4
    refine lv_aload_n hx hb dX0_put_62 rfl (lv_at hl 0 rfl) ?_
    refine lv_dup hx hb dX0_put_63 rfl ?_
    refine va_get (D := D) (ci := 0) (v := .int (nI z1)) (C := RX0) (T := TX0) (N := 8) hx hb hts in_X0 hown hK hP 0 rfl rfl 5 (by decide) (hts _ q66) (fun _ h9 => h9) rfl dX0_put_64 ?_
    refine lv_bipush (v := nI 16) hx hb dX0_put_67 (by decide +kernel) ?_
    refine n_iadd hx hb dX0_put_69 ?_
    refine va_put (D := D) (ci := 0) (v := .int (nI (z1 + 16))) (ty := .int) (C := RX0) (T := TX0) (N := 8) hx hb hts in_X0 tyX0 tyX0_ok nmX0 hown hK hP hD hS 0 rfl rfl 5 (by decide) (hts _ q66) (fun _ h9 => h9) rfl (by decide +kernel) rfl rfl (Nat.le_of_ble_eq_true rfl) dX0_put_70 (fun H locs hP hD hS => ?_)
    have hP : va_P D vwCl [(x0, .inr (0, [.ref c1, .ref c2, .ref t1, .ref k1, .ref o1, .int (nI (z1 + 16)), .int ln, .int (nI bk)])), (t1, .inl (d0, 16384, .inl g4))] H := hP
    have hD : va_D A [(x0, .inr (0, [.ref c1, .ref c2, .ref t1, .ref k1, .ref o1, .int (nI (z1 + 16)), .int ln, .int (nI bk)])), (t1, .inl (d0, 16384, .inl g4))] := hD
    refine lv_iconst (v := nI 1) hx hb dX0_put_73 (by decide +kernel) ?_
    have hpost : (∀ j : Nat, j < z1 → g4 j = g j) ∧ (∀ k : Nat, k < 16 → g4 (z1 + k) = pb v0 v1 v2 v3 k) ∧ aB g4 := by
      refine ⟨fun j hj => by rw [ha4 _ (by omega), ha3 _ (by omega), ha2 _ (by omega), ha1 _ (by omega)], fun k hk => ?_, hg4⟩
      rcases (show k < 4 ∨ (4 ≤ k ∧ k < 8) ∨ (8 ≤ k ∧ k < 12) ∨ 12 ≤ k by omega) with h9 | h9 | h9 | h9
      · rw [ha4 _ (by omega), ha3 _ (by omega), ha2 _ (by omega), hb1 _ h9, pb_0 h9]
      · have h8 := hb2 (k - 4) (by omega)
        rw [show z1 + 4 + (k - 4) = z1 + k by omega] at h8
        rw [ha4 _ (by omega), ha3 _ (by omega), h8, pb_1 h9]
      · have h8 := hb3 (k - 8) (by omega)
        rw [show z1 + 8 + (k - 8) = z1 + k by omega] at h8
        rw [ha4 _ (by omega), h8, pb_2 h9]
      · have h8 := hb4 (k - 12) (by omega)
        rw [show z1 + 12 + (k - 12) = z1 + k by omega] at h8
        rw [h8, pb_3 ⟨h9, hk⟩]
    exact W.zret (v := nI 1) hx hb hr rfl (fun t ht hW => ⟨⟨nI 1, (g4, z1 + 16), rfl, ⟨fun h9 => absurd h9 (by omega), fun _ => ⟨rfl, rfl, hpost⟩⟩, n_hP ht hP⟩, hS.F ht⟩) hS.2.2 dX0_put_74
  · refine lv_iconst (v := nI 0) hx hb dX0_put_15 (by decide +kernel) ?_
    exact W.zret (v := nI 0) hx hb hr rfl (fun t ht hW => ⟨⟨nI 0, (g, z1), rfl, ⟨fun _ => ⟨rfl, rfl⟩, fun h9 => absurd h9 (by omega)⟩, n_hP ht hP⟩, hS.F ht⟩) hS.2.2 dX0_put_16

set_option maxHeartbeats 4000000 in
set_option maxRecDepth 100000 in
theorem mx_put_m (l : Launch) (D : va_G) (x0 t1 k1 o1 : Nat) (z1 : Nat) (ln : Int32) (bk : Nat) (d0 : ClassId) (g : Nat → Int32) (v0 v1 v2 v3 : Int32) (hz : z1 ≤ 16384) (hg : aB g) (sz : Nat) : Met l yX5_put (ws_ yX5_put cX5_put 7 (some .boolean)) ({ frames := 1, cells := 0, slots := 0, locals := 100 }) (pcW [.ref x0, .int v0, .int v1, .int v2, .int v3] D vwCl [(x0, .inr (1, [.ref t1, .ref k1, .ref o1, .int (nI z1), .int ln, .int (nI bk)])), (t1, .inl (d0, 16384, .inl g))] [(d0, .byte)] sz) (va_Qi (fun (r : Int32) (u : (Nat → Int32) × Nat) => (16384 < z1 + 16 → r = 0 ∧ u = (g, z1)) ∧ (z1 + 16 ≤ 16384 → r = 1 ∧ u.2 = z1 + 16 ∧ (∀ j : Nat, j < z1 → u.1 j = g j) ∧ (∀ k : Nat, k < 16 → u.1 (z1 + k) = pb v0 v1 v2 v3 k) ∧ aB u.1)) (fun (u : (Nat → Int32) × Nat) t => va_P D vwCl [(x0, .inr (1, [.ref t1, .ref k1, .ref o1, .int (nI u.2), .int ln, .int (nI bk)])), (t1, .inl (d0, 16384, .inl u.1))] t.heap) (va_A [(x0, .inr (1, [.ref t1, .ref k1, .ref o1, .int (nI z1), .int ln, .int (nI bk)])), (t1, .inl (d0, 16384, .inl g))] sz)) 0 0 (va_A [(x0, .inr (1, [.ref t1, .ref k1, .ref o1, .int (nI z1), .int ln, .int (nI bk)])), (t1, .inl (d0, 16384, .inl g))] sz) := by
  refine n_metW (Qc := fun A => va_Qi (fun (r : Int32) (u : (Nat → Int32) × Nat) => (16384 < z1 + 16 → r = 0 ∧ u = (g, z1)) ∧ (z1 + 16 ≤ 16384 → r = 1 ∧ u.2 = z1 + 16 ∧ (∀ j : Nat, j < z1 → u.1 j = g j) ∧ (∀ k : Nat, k < 16 → u.1 (z1 + k) = pb v0 v1 v2 v3 k) ∧ aB u.1)) (fun (u : (Nat → Int32) × Nat) t => va_P D vwCl [(x0, .inr (1, [.ref t1, .ref k1, .ref o1, .int (nI u.2), .int ln, .int (nI bk)])), (t1, .inl (d0, 16384, .inl u.1))] t.heap) A) (by decide) (Nat.le_of_ble_eq_true rfl) ?_
  intro p e s m below meth c hx hb hr hlocks hml hown hin hts hP hK A hsz hD hA hS ls hl
  have hown : s.vm.findClass "BlockPackerModel" = some m.cls := hown
  have hl : lv_has ls 7 [(0, .ref x0), (1, .int v0), (2, .int v1), (3, .int v2), (4, .int v3)] := hl
  refine lv_aload_n hx hb dX5_put_0 rfl (lv_at hl 0 rfl) ?_
  refine va_get (D := D) (ci := 1) (v := .int (nI z1)) (C := RX5) (T := TX5) (N := 6) hx hb hts in_X5 hown hK hP 0 rfl rfl 3 (by decide) (hts _ q629) (fun _ h9 => h9) rfl dX5_put_1 ?_
  refine lv_bipush (v := nI 16) hx hb dX5_put_4 (by decide +kernel) ?_
  refine n_iadd hx hb dX5_put_6 ?_
  refine lv_sipush (v := nI 16384) hx hb dX5_put_7 (by decide +kernel) ?_
  refine n_icmp_le (tgt := 15) hx hb dX5_put_10 (by decide) (by omega) (by omega) (fun c__1 => ?_) (fun c__1 => ?_)
  · refine lv_iconst (v := nI 0) hx hb dX5_put_15 (by decide +kernel) ?_
    refine lv_istore (lv' := [(5, .int (nI 0)), (0, .ref x0), (1, .int v0), (2, .int v1), (3, .int v2), (4, .int v3)]) hx hb dX5_put_16 hl (by decide) rfl (fun ls hl => ?_)
    refine n_loopAt 18 (fun n9 H locs ls cells slots => ∃ k : Nat, ∃ h : Nat → Int32, (n9 = 16 - k) ∧ (k ≤ 16) ∧ (∀ j : Nat, j < z1 → h j = g j) ∧ (∀ j : Nat, j < k → h (z1 + j) = pb v0 v1 v2 v3 j) ∧ (aB h) ∧ lv_has ls 7 [(0, .ref x0), (1, .int v0), (2, .int v1), (3, .int v2), (4, .int v3), (5, .int (nI k))] ∧ va_P D vwCl [(x0, .inr (1, [.ref t1, .ref k1, .ref o1, .int (nI z1), .int ln, .int (nI bk)])), (t1, .inl (d0, 16384, .inl h))] H ∧ va_D A [(x0, .inr (1, [.ref t1, .ref k1, .ref o1, .int (nI z1), .int ln, .int (nI bk)])), (t1, .inl (d0, 16384, .inl h))] ∧ va_S A s.heap H locs ∧ cells = 0 ∧ slots = 0) 16 ⟨0, g, rfl, by omega, fun _ _ => rfl, fun j hj => absurd hj (by omega), hg, (lv_sub hl [1, 2, 3, 4, 5, 0] rfl), hP, hD, hS, rfl, rfl⟩ ?_
    clear hl hP hD hS
    intro n ih H locs ls cells slots hI
    obtain ⟨k, h, hn, hk, hk1, hk2, hh, hl, hP, hD, hS, rfl, rfl⟩ := hI
    refine lv_iload hx hb dX5_put_18 (lv_at hl 5 rfl) ?_
    refine lv_bipush (v := nI 16) hx hb dX5_put_20 (by decide +kernel) ?_
    refine n_icmp_ge (tgt := 93) hx hb dX5_put_22 (by decide) (by omega) (by omega) (fun c__2 => ?_) (fun c__2 => ?_)
    · refine lv_aload_n hx hb dX5_put_93 rfl (lv_at hl 0 rfl) ?_
      refine lv_aload_n hx hb dX5_put_94 rfl (lv_at hl 0 rfl) ?_
      refine va_get (D := D) (ci := 1) (v := .int (nI z1)) (C := RX5) (T := TX5) (N := 6) hx hb hts in_X5 hown hK hP 0 rfl rfl 3 (by decide) (hts _ q629) (fun _ h9 => h9) rfl dX5_put_95 ?_
      refine lv_bipush (v := nI 16) hx hb dX5_put_98 (by decide +kernel) ?_
      refine n_iadd hx hb dX5_put_100 ?_
      refine va_put (D := D) (ci := 1) (v := .int (nI (z1 + 16))) (ty := .int) (C := RX5) (T := TX5) (N := 6) hx hb hts in_X5 tyX5 tyX5_ok nmX5 hown hK hP hD hS 0 rfl rfl 3 (by decide) (hts _ q629) (fun _ h9 => h9) rfl (by decide +kernel) rfl rfl (Nat.le_of_ble_eq_true rfl) dX5_put_101 (fun H locs hP hD hS => ?_)
      have hP : va_P D vwCl [(x0, .inr (1, [.ref t1, .ref k1, .ref o1, .int (nI (z1 + 16)), .int ln, .int (nI bk)])), (t1, .inl (d0, 16384, .inl h))] H := hP
      have hD : va_D A [(x0, .inr (1, [.ref t1, .ref k1, .ref o1, .int (nI (z1 + 16)), .int ln, .int (nI bk)])), (t1, .inl (d0, 16384, .inl h))] := hD
      refine lv_iconst (v := nI 1) hx hb dX5_put_104 (by decide +kernel) ?_
      exact W.zret (v := nI 1) hx hb hr rfl (fun t ht hW => ⟨⟨nI 1, (h, z1 + 16), rfl, ⟨fun h9 => absurd h9 (by omega), fun _ => ⟨rfl, rfl, hk1, fun j hj => hk2 j (by omega), hh⟩⟩, n_hP ht hP⟩, hS.F ht⟩) hS.2.2 dX5_put_105
    · refine lv_iload hx hb dX5_put_25 (lv_at hl 5 rfl) ?_
      refine lv_iconst (v := nI 4) hx hb dX5_put_27 (by decide +kernel) ?_
      refine n_icmp_ge (tgt := 35) hx hb dX5_put_28 (by decide) (by omega) (by omega) (fun c__3 => ?_) (fun c__3 => ?_)
      · refine lv_iload hx hb dX5_put_35 (lv_at hl 5 rfl) ?_
        refine lv_bipush (v := nI 8) hx hb dX5_put_37 (by decide +kernel) ?_
        refine n_icmp_ge (tgt := 46) hx hb dX5_put_39 (by decide) (by omega) (by omega) (fun c__4 => ?_) (fun c__4 => ?_)
        · refine lv_iload hx hb dX5_put_46 (lv_at hl 5 rfl) ?_
          refine lv_bipush (v := nI 12) hx hb dX5_put_48 (by decide +kernel) ?_
          refine n_icmp_ge (tgt := 57) hx hb dX5_put_50 (by decide) (by omega) (by omega) (fun c__5 => ?_) (fun c__5 => ?_)
          · refine lv_iload hx hb dX5_put_57 (lv_at hl 4 rfl) ?_
            refine lv_istore (lv' := [(6, .int v3), (0, .ref x0), (1, .int v0), (2, .int v1), (3, .int v2), (4, .int v3), (5, .int (nI k))]) hx hb dX5_put_59 hl (by decide) rfl (fun ls hl => ?_)
            refine lv_aload_n hx hb dX5_put_61 rfl (lv_at hl 1 rfl) ?_
            refine va_get (D := D) (ci := 1) (v := .ref t1) (C := RX5) (T := TX5) (N := 6) hx hb hts in_X5 hown hK hP 0 rfl rfl 0 (by decide) (hts _ q626) (fun _ h9 => h9) rfl dX5_put_62 ?_
            refine lv_aload_n hx hb dX5_put_65 rfl (lv_at hl 1 rfl) ?_
            refine va_get (D := D) (ci := 1) (v := .int (nI z1)) (C := RX5) (T := TX5) (N := 6) hx hb hts in_X5 hown hK hP 0 rfl rfl 3 (by decide) (hts _ q629) (fun _ h9 => h9) rfl dX5_put_66 ?_
            refine lv_iload hx hb dX5_put_69 (lv_at hl 6 rfl) ?_
            refine n_iadd hx hb dX5_put_71 ?_
            refine lv_iload hx hb dX5_put_72 (lv_at hl 0 rfl) ?_
            refine lv_bipush (v := nI 24) hx hb dX5_put_74 (by decide +kernel) ?_
            refine lv_bipush (v := nI 8) hx hb dX5_put_76 (by decide +kernel) ?_
            refine lv_iload hx hb dX5_put_78 (lv_at hl 6 rfl) ?_
            refine lv_iconst (v := nI 3) hx hb dX5_put_80 (by decide +kernel) ?_
            refine lv_iand hx hb dX5_put_81 ?_
            refine n_topI (y := nI (k % 4)) (pk_andN (by omega) 2 (by decide +kernel)) ?_
            refine n_imul hx hb dX5_put_82 ?_
            refine n_isub hx hb dX5_put_83 (by omega) ?_
            refine lv_iushr hx hb dX5_put_84 rfl ?_
            refine lv_i2b hx hb dX5_put_85 rfl ?_
            refine n_bast hx hb hK hP hD hS 1 0 rfl rfl (by omega) (by omega) dX5_put_86 (fun H locs hP hD hS => ?_)
            have hP : va_P D vwCl [(x0, .inr (1, [.ref t1, .ref k1, .ref o1, .int (nI z1), .int ln, .int (nI bk)])), (t1, .inl (d0, 16384, .inl (upd h (z1 + k) (vp_nar .byte ((((v3).toUInt32 >>> ((nI (24 - (8 * (k % 4)))).toUInt32 &&& Int32.toUInt32 31)).toInt32).toInt8.toInt32)))))] H := hP
            have hD : va_D A [(x0, .inr (1, [.ref t1, .ref k1, .ref o1, .int (nI z1), .int ln, .int (nI bk)])), (t1, .inl (d0, 16384, .inl (upd h (z1 + k) (vp_nar .byte ((((v3).toUInt32 >>> ((nI (24 - (8 * (k % 4)))).toUInt32 &&& Int32.toUInt32 31)).toInt32).toInt8.toInt32)))))] := hD
            refine lv_iinc (v := nI (k + 1)) (lv' := [(5, .int (nI (k + 1))), (6, .int v3), (0, .ref x0), (1, .int v0), (2, .int v1), (3, .int v2), (4, .int v3)]) hx hb dX5_put_87 hl (k := 6) rfl (n_inc _ 1 (by decide +kernel)) (by decide) rfl (fun ls hl => ?_)
            refine lv_goto (tgt := 18) hx hb dX5_put_90 (by decide) ?_
            refine ih (16 - (k + 1)) (by omega) _ _ _ _ _ ⟨k + 1, upd h (z1 + k) (vp_nar .byte ((((v3).toUInt32 >>> ((nI (24 - (8 * (k % 4)))).toUInt32 &&& Int32.toUInt32 31)).toInt32).toInt8.toInt32)), rfl, by omega, fun j hj => by rw [pk_un (by omega)]; exact hk1 j hj, fun j hj => ?_, aB_upd hh (bB_nar _), (lv_sub hl [2, 3, 4, 5, 6, 0] rfl), hP, hD, hS, rfl, rfl⟩
            rcases Nat.lt_or_ge j k with h9 | h9
            · rw [pk_un (by omega)]; exact hk2 j h9
            · rw [show j = k by omega, pk_us, pk_vb]; exact (pb_at k (by rw [if_neg (by omega), if_neg (by omega), if_neg (by omega)])).symm
          · refine lv_iload_n hx hb dX5_put_53 rfl (lv_at hl 3 rfl) ?_
            refine lv_goto (tgt := 59) hx hb dX5_put_54 (by decide) ?_
            refine lv_istore (lv' := [(6, .int v2), (0, .ref x0), (1, .int v0), (2, .int v1), (3, .int v2), (4, .int v3), (5, .int (nI k))]) hx hb dX5_put_59 hl (by decide) rfl (fun ls hl => ?_)
            refine lv_aload_n hx hb dX5_put_61 rfl (lv_at hl 1 rfl) ?_
            refine va_get (D := D) (ci := 1) (v := .ref t1) (C := RX5) (T := TX5) (N := 6) hx hb hts in_X5 hown hK hP 0 rfl rfl 0 (by decide) (hts _ q626) (fun _ h9 => h9) rfl dX5_put_62 ?_
            refine lv_aload_n hx hb dX5_put_65 rfl (lv_at hl 1 rfl) ?_
            refine va_get (D := D) (ci := 1) (v := .int (nI z1)) (C := RX5) (T := TX5) (N := 6) hx hb hts in_X5 hown hK hP 0 rfl rfl 3 (by decide) (hts _ q629) (fun _ h9 => h9) rfl dX5_put_66 ?_
            refine lv_iload hx hb dX5_put_69 (lv_at hl 6 rfl) ?_
            refine n_iadd hx hb dX5_put_71 ?_
            refine lv_iload hx hb dX5_put_72 (lv_at hl 0 rfl) ?_
            refine lv_bipush (v := nI 24) hx hb dX5_put_74 (by decide +kernel) ?_
            refine lv_bipush (v := nI 8) hx hb dX5_put_76 (by decide +kernel) ?_
            refine lv_iload hx hb dX5_put_78 (lv_at hl 6 rfl) ?_
            refine lv_iconst (v := nI 3) hx hb dX5_put_80 (by decide +kernel) ?_
            refine lv_iand hx hb dX5_put_81 ?_
            refine n_topI (y := nI (k % 4)) (pk_andN (by omega) 2 (by decide +kernel)) ?_
            refine n_imul hx hb dX5_put_82 ?_
            refine n_isub hx hb dX5_put_83 (by omega) ?_
            refine lv_iushr hx hb dX5_put_84 rfl ?_
            refine lv_i2b hx hb dX5_put_85 rfl ?_
            refine n_bast hx hb hK hP hD hS 1 0 rfl rfl (by omega) (by omega) dX5_put_86 (fun H locs hP hD hS => ?_)
            have hP : va_P D vwCl [(x0, .inr (1, [.ref t1, .ref k1, .ref o1, .int (nI z1), .int ln, .int (nI bk)])), (t1, .inl (d0, 16384, .inl (upd h (z1 + k) (vp_nar .byte ((((v2).toUInt32 >>> ((nI (24 - (8 * (k % 4)))).toUInt32 &&& Int32.toUInt32 31)).toInt32).toInt8.toInt32)))))] H := hP
            have hD : va_D A [(x0, .inr (1, [.ref t1, .ref k1, .ref o1, .int (nI z1), .int ln, .int (nI bk)])), (t1, .inl (d0, 16384, .inl (upd h (z1 + k) (vp_nar .byte ((((v2).toUInt32 >>> ((nI (24 - (8 * (k % 4)))).toUInt32 &&& Int32.toUInt32 31)).toInt32).toInt8.toInt32)))))] := hD
            refine lv_iinc (v := nI (k + 1)) (lv' := [(5, .int (nI (k + 1))), (6, .int v2), (0, .ref x0), (1, .int v0), (2, .int v1), (3, .int v2), (4, .int v3)]) hx hb dX5_put_87 hl (k := 6) rfl (n_inc _ 1 (by decide +kernel)) (by decide) rfl (fun ls hl => ?_)
            refine lv_goto (tgt := 18) hx hb dX5_put_90 (by decide) ?_
            refine ih (16 - (k + 1)) (by omega) _ _ _ _ _ ⟨k + 1, upd h (z1 + k) (vp_nar .byte ((((v2).toUInt32 >>> ((nI (24 - (8 * (k % 4)))).toUInt32 &&& Int32.toUInt32 31)).toInt32).toInt8.toInt32)), rfl, by omega, fun j hj => by rw [pk_un (by omega)]; exact hk1 j hj, fun j hj => ?_, aB_upd hh (bB_nar _), (lv_sub hl [2, 3, 4, 5, 6, 0] rfl), hP, hD, hS, rfl, rfl⟩
            rcases Nat.lt_or_ge j k with h9 | h9
            · rw [pk_un (by omega)]; exact hk2 j h9
            · rw [show j = k by omega, pk_us, pk_vb]; exact (pb_at k (by rw [if_neg (by omega), if_neg (by omega), if_pos (by omega)])).symm
        · refine lv_iload_n hx hb dX5_put_42 rfl (lv_at hl 2 rfl) ?_
          refine lv_goto (tgt := 59) hx hb dX5_put_43 (by decide) ?_
          refine lv_istore (lv' := [(6, .int v1), (0, .ref x0), (1, .int v0), (2, .int v1), (3, .int v2), (4, .int v3), (5, .int (nI k))]) hx hb dX5_put_59 hl (by decide) rfl (fun ls hl => ?_)
          refine lv_aload_n hx hb dX5_put_61 rfl (lv_at hl 1 rfl) ?_
          refine va_get (D := D) (ci := 1) (v := .ref t1) (C := RX5) (T := TX5) (N := 6) hx hb hts in_X5 hown hK hP 0 rfl rfl 0 (by decide) (hts _ q626) (fun _ h9 => h9) rfl dX5_put_62 ?_
          refine lv_aload_n hx hb dX5_put_65 rfl (lv_at hl 1 rfl) ?_
          refine va_get (D := D) (ci := 1) (v := .int (nI z1)) (C := RX5) (T := TX5) (N := 6) hx hb hts in_X5 hown hK hP 0 rfl rfl 3 (by decide) (hts _ q629) (fun _ h9 => h9) rfl dX5_put_66 ?_
          refine lv_iload hx hb dX5_put_69 (lv_at hl 6 rfl) ?_
          refine n_iadd hx hb dX5_put_71 ?_
          refine lv_iload hx hb dX5_put_72 (lv_at hl 0 rfl) ?_
          refine lv_bipush (v := nI 24) hx hb dX5_put_74 (by decide +kernel) ?_
          refine lv_bipush (v := nI 8) hx hb dX5_put_76 (by decide +kernel) ?_
          refine lv_iload hx hb dX5_put_78 (lv_at hl 6 rfl) ?_
          refine lv_iconst (v := nI 3) hx hb dX5_put_80 (by decide +kernel) ?_
          refine lv_iand hx hb dX5_put_81 ?_
          refine n_topI (y := nI (k % 4)) (pk_andN (by omega) 2 (by decide +kernel)) ?_
          refine n_imul hx hb dX5_put_82 ?_
          refine n_isub hx hb dX5_put_83 (by omega) ?_
          refine lv_iushr hx hb dX5_put_84 rfl ?_
          refine lv_i2b hx hb dX5_put_85 rfl ?_
          refine n_bast hx hb hK hP hD hS 1 0 rfl rfl (by omega) (by omega) dX5_put_86 (fun H locs hP hD hS => ?_)
          have hP : va_P D vwCl [(x0, .inr (1, [.ref t1, .ref k1, .ref o1, .int (nI z1), .int ln, .int (nI bk)])), (t1, .inl (d0, 16384, .inl (upd h (z1 + k) (vp_nar .byte ((((v1).toUInt32 >>> ((nI (24 - (8 * (k % 4)))).toUInt32 &&& Int32.toUInt32 31)).toInt32).toInt8.toInt32)))))] H := hP
          have hD : va_D A [(x0, .inr (1, [.ref t1, .ref k1, .ref o1, .int (nI z1), .int ln, .int (nI bk)])), (t1, .inl (d0, 16384, .inl (upd h (z1 + k) (vp_nar .byte ((((v1).toUInt32 >>> ((nI (24 - (8 * (k % 4)))).toUInt32 &&& Int32.toUInt32 31)).toInt32).toInt8.toInt32)))))] := hD
          refine lv_iinc (v := nI (k + 1)) (lv' := [(5, .int (nI (k + 1))), (6, .int v1), (0, .ref x0), (1, .int v0), (2, .int v1), (3, .int v2), (4, .int v3)]) hx hb dX5_put_87 hl (k := 6) rfl (n_inc _ 1 (by decide +kernel)) (by decide) rfl (fun ls hl => ?_)
          refine lv_goto (tgt := 18) hx hb dX5_put_90 (by decide) ?_
          refine ih (16 - (k + 1)) (by omega) _ _ _ _ _ ⟨k + 1, upd h (z1 + k) (vp_nar .byte ((((v1).toUInt32 >>> ((nI (24 - (8 * (k % 4)))).toUInt32 &&& Int32.toUInt32 31)).toInt32).toInt8.toInt32)), rfl, by omega, fun j hj => by rw [pk_un (by omega)]; exact hk1 j hj, fun j hj => ?_, aB_upd hh (bB_nar _), (lv_sub hl [2, 3, 4, 5, 6, 0] rfl), hP, hD, hS, rfl, rfl⟩
          rcases Nat.lt_or_ge j k with h9 | h9
          · rw [pk_un (by omega)]; exact hk2 j h9
          · rw [show j = k by omega, pk_us, pk_vb]; exact (pb_at k (by rw [if_neg (by omega), if_pos (by omega)])).symm
      · refine lv_iload_n hx hb dX5_put_31 rfl (lv_at hl 1 rfl) ?_
        refine lv_goto (tgt := 59) hx hb dX5_put_32 (by decide) ?_
        refine lv_istore (lv' := [(6, .int v0), (0, .ref x0), (1, .int v0), (2, .int v1), (3, .int v2), (4, .int v3), (5, .int (nI k))]) hx hb dX5_put_59 hl (by decide) rfl (fun ls hl => ?_)
        refine lv_aload_n hx hb dX5_put_61 rfl (lv_at hl 1 rfl) ?_
        refine va_get (D := D) (ci := 1) (v := .ref t1) (C := RX5) (T := TX5) (N := 6) hx hb hts in_X5 hown hK hP 0 rfl rfl 0 (by decide) (hts _ q626) (fun _ h9 => h9) rfl dX5_put_62 ?_
        refine lv_aload_n hx hb dX5_put_65 rfl (lv_at hl 1 rfl) ?_
        refine va_get (D := D) (ci := 1) (v := .int (nI z1)) (C := RX5) (T := TX5) (N := 6) hx hb hts in_X5 hown hK hP 0 rfl rfl 3 (by decide) (hts _ q629) (fun _ h9 => h9) rfl dX5_put_66 ?_
        refine lv_iload hx hb dX5_put_69 (lv_at hl 6 rfl) ?_
        refine n_iadd hx hb dX5_put_71 ?_
        refine lv_iload hx hb dX5_put_72 (lv_at hl 0 rfl) ?_
        refine lv_bipush (v := nI 24) hx hb dX5_put_74 (by decide +kernel) ?_
        refine lv_bipush (v := nI 8) hx hb dX5_put_76 (by decide +kernel) ?_
        refine lv_iload hx hb dX5_put_78 (lv_at hl 6 rfl) ?_
        refine lv_iconst (v := nI 3) hx hb dX5_put_80 (by decide +kernel) ?_
        refine lv_iand hx hb dX5_put_81 ?_
        refine n_topI (y := nI (k % 4)) (pk_andN (by omega) 2 (by decide +kernel)) ?_
        refine n_imul hx hb dX5_put_82 ?_
        refine n_isub hx hb dX5_put_83 (by omega) ?_
        refine lv_iushr hx hb dX5_put_84 rfl ?_
        refine lv_i2b hx hb dX5_put_85 rfl ?_
        refine n_bast hx hb hK hP hD hS 1 0 rfl rfl (by omega) (by omega) dX5_put_86 (fun H locs hP hD hS => ?_)
        have hP : va_P D vwCl [(x0, .inr (1, [.ref t1, .ref k1, .ref o1, .int (nI z1), .int ln, .int (nI bk)])), (t1, .inl (d0, 16384, .inl (upd h (z1 + k) (vp_nar .byte ((((v0).toUInt32 >>> ((nI (24 - (8 * (k % 4)))).toUInt32 &&& Int32.toUInt32 31)).toInt32).toInt8.toInt32)))))] H := hP
        have hD : va_D A [(x0, .inr (1, [.ref t1, .ref k1, .ref o1, .int (nI z1), .int ln, .int (nI bk)])), (t1, .inl (d0, 16384, .inl (upd h (z1 + k) (vp_nar .byte ((((v0).toUInt32 >>> ((nI (24 - (8 * (k % 4)))).toUInt32 &&& Int32.toUInt32 31)).toInt32).toInt8.toInt32)))))] := hD
        refine lv_iinc (v := nI (k + 1)) (lv' := [(5, .int (nI (k + 1))), (6, .int v0), (0, .ref x0), (1, .int v0), (2, .int v1), (3, .int v2), (4, .int v3)]) hx hb dX5_put_87 hl (k := 6) rfl (n_inc _ 1 (by decide +kernel)) (by decide) rfl (fun ls hl => ?_)
        refine lv_goto (tgt := 18) hx hb dX5_put_90 (by decide) ?_
        refine ih (16 - (k + 1)) (by omega) _ _ _ _ _ ⟨k + 1, upd h (z1 + k) (vp_nar .byte ((((v0).toUInt32 >>> ((nI (24 - (8 * (k % 4)))).toUInt32 &&& Int32.toUInt32 31)).toInt32).toInt8.toInt32)), rfl, by omega, fun j hj => by rw [pk_un (by omega)]; exact hk1 j hj, fun j hj => ?_, aB_upd hh (bB_nar _), (lv_sub hl [2, 3, 4, 5, 6, 0] rfl), hP, hD, hS, rfl, rfl⟩
        rcases Nat.lt_or_ge j k with h9 | h9
        · rw [pk_un (by omega)]; exact hk2 j h9
        · rw [show j = k by omega, pk_us, pk_vb]; exact (pb_at k (by rw [if_pos (by omega)])).symm
  · refine lv_iconst (v := nI 0) hx hb dX5_put_13 (by decide +kernel) ?_
    exact W.zret (v := nI 0) hx hb hr rfl (fun t ht hW => ⟨⟨nI 0, (g, z1), rfl, ⟨fun _ => ⟨rfl, rfl⟩, fun h9 => absurd h9 (by omega)⟩, n_hP ht hP⟩, hS.F ht⟩) hS.2.2 dX5_put_14

set_option maxHeartbeats 4000000 in
set_option maxRecDepth 100000 in
theorem mx_pack_x (l : Launch) (D : va_G) (x0 c1 c2 t1 k1 o1 : Nat) (z1 : Nat) (ln : Int32) (bk : Nat) (d0 : ClassId) (g : Nat → Int32) (d2 : ClassId) (pk : Nat → Int32) (hz : z1 ≤ 16384) (hg : aB g) (hp : aB pk) (sz : Nat) : Met l yX0_pack (ws_ yX0_pack cX0_pack 1 (some .boolean)) ({ frames := 6, cells := 1, slots := 8192, locals := 700 }) (pcZ [.ref x0] D vwCl [(x0, .inr (0, [.ref c1, .ref c2, .ref t1, .ref k1, .ref o1, .int (nI z1), .int ln, .int (nI bk)])), (c1, .inr (2, [])), (t1, .inl (d0, 16384, .inl g)), (k1, .inl (d2, 16464, .inl pk))] [(d0, .byte), (d2, .byte)] sz) (va_Qi (fun (r : Int32) (u : (Nat → Int32) × Int32) => r = 1 ∧ ∃ e9 : Nat, u.2 = nI e9 ∧ e9 ≤ 16464 ∧ zBlock g u.1 z1 e9 ∧ aB u.1) (fun (u : (Nat → Int32) × Int32) t => va_P D vwCl [(x0, .inr (0, [.ref c1, .ref c2, .ref t1, .ref k1, .ref o1, .int (nI z1), .int u.2, .int (nI bk)])), (c1, .inr (2, [])), (t1, .inl (d0, 16384, .inl g)), (k1, .inl (d2, 16464, .inl u.1))] t.heap) (va_A [(x0, .inr (0, [.ref c1, .ref c2, .ref t1, .ref k1, .ref o1, .int (nI z1), .int ln, .int (nI bk)])), (c1, .inr (2, [])), (t1, .inl (d0, 16384, .inl g)), (k1, .inl (d2, 16464, .inl pk))] sz)) 1 8192 (va_A [(x0, .inr (0, [.ref c1, .ref c2, .ref t1, .ref k1, .ref o1, .int (nI z1), .int ln, .int (nI bk)])), (c1, .inr (2, [])), (t1, .inl (d0, 16384, .inl g)), (k1, .inl (d2, 16464, .inl pk))] sz) := by
  refine n_metZ (Qc := fun A => va_Qi (fun (r : Int32) (u : (Nat → Int32) × Int32) => r = 1 ∧ ∃ e9 : Nat, u.2 = nI e9 ∧ e9 ≤ 16464 ∧ zBlock g u.1 z1 e9 ∧ aB u.1) (fun (u : (Nat → Int32) × Int32) t => va_P D vwCl [(x0, .inr (0, [.ref c1, .ref c2, .ref t1, .ref k1, .ref o1, .int (nI z1), .int u.2, .int (nI bk)])), (c1, .inr (2, [])), (t1, .inl (d0, 16384, .inl g)), (k1, .inl (d2, 16464, .inl u.1))] t.heap) A) (by decide) (Nat.le_of_ble_eq_true rfl) ?_
  intro p e s m below meth c hx hb hr hlocks hml hown hin hts hP hK A hsz hD hA hS hZ ls hl
  have hown : s.vm.findClass "BlockPacker" = some m.cls := hown
  have hl : lv_has ls 1 [(0, .ref x0)] := hl
  refine lv_aload_n hx hb dX0_pack_0 rfl (lv_at hl 0 rfl) ?_
  refine lv_aload_n hx hb dX0_pack_1 rfl (lv_at hl 0 rfl) ?_
  refine va_get (D := D) (ci := 0) (v := .ref c1) (C := RX0) (T := TX0) (N := 8) hx hb hts in_X0 hown hK hP 0 rfl rfl 0 (by decide) (hts _ q61) (fun _ h9 => h9) rfl dX0_pack_2 ?_
  refine lv_aload_n hx hb dX0_pack_5 rfl (lv_at hl 0 rfl) ?_
  refine va_get (D := D) (ci := 0) (v := .ref t1) (C := RX0) (T := TX0) (N := 8) hx hb hts in_X0 hown hK hP 0 rfl rfl 2 (by decide) (hts _ q63) (fun _ h9 => h9) rfl dX0_pack_6 ?_
  refine lv_iconst (v := nI 0) hx hb dX0_pack_9 (by decide +kernel) ?_
  refine lv_aload_n hx hb dX0_pack_10 rfl (lv_at hl 0 rfl) ?_
  refine va_get (D := D) (ci := 0) (v := .int (nI z1)) (C := RX0) (T := TX0) (N := 8) hx hb hts in_X0 hown hK hP 0 rfl rfl 5 (by decide) (hts _ q66) (fun _ h9 => h9) rfl dX0_pack_11 ?_
  refine lv_aload_n hx hb dX0_pack_14 rfl (lv_at hl 0 rfl) ?_
  refine va_get (D := D) (ci := 0) (v := .ref k1) (C := RX0) (T := TX0) (N := 8) hx hb hts in_X0 hown hK hP 0 rfl rfl 3 (by decide) (hts _ q64) (fun _ h9 => h9) rfl dX0_pack_15 ?_
  refine lv_iconst (v := nI 0) hx hb dX0_pack_18 (by decide +kernel) ?_
  refine lv_aload_n hx hb dX0_pack_19 rfl (lv_at hl 0 rfl) ?_
  refine va_get (D := D) (ci := 0) (v := .ref k1) (C := RX0) (T := TX0) (N := 8) hx hb hts in_X0 hown hK hP 0 rfl rfl 3 (by decide) (hts _ q64) (fun _ h9 => h9) rfl dX0_pack_20 ?_
  refine va_alen (v := nI 16464) hx hb hK hP 3 1 rfl rfl rfl dX0_pack_23 ?_
  refine n_calli (va_runU (As := [.ref t1, .int (nI 0), .int (nI z1), .ref k1, .int (nI 0), .int (nI 16464)]) (rest := [.ref x0]) ⟨hx, hb, hml, hown, hts⟩ (mt_compress l D vwCl c1 t1 d0 g k1 d2 pk z1 hz hg hp s.heap.size) (va_cwA 6 hts (lw_U q112 q114 q115 q116 q5 q117) rfl rfl rfl hZ.2.1 (by decide +kernel) ⟨Nat.le_of_ble_eq_true rfl, Nat.le_of_ble_eq_true rfl⟩) (pcZ_preV (hP.sub [2, 3] rfl) (hK.sub [0, 1] rfl) (hD.sub [2, 3] (by decide) rfl) (skZ_at hZ hS (va_free hD hS hA [2, 3] rfl)) (va_recv hK hP (ci := 2) (q0 := 1) rfl rfl)) rfl rfl hl.1 rfl (lv_room (Nat.le_of_ble_eq_true rfl)) dX0_pack_24 ⟨Nat.le_of_ble_eq_true rfl, Nat.le_of_ble_eq_true rfl⟩) hP hD hS hA [2, 3] rfl (fun _ => rfl) (fun r1 pk2 H locs hw hP hD hS => ?_)
  have hP : va_P D vwCl [(x0, .inr (0, [.ref c1, .ref c2, .ref t1, .ref k1, .ref o1, .int (nI z1), .int ln, .int (nI bk)])), (c1, .inr (2, [])), (t1, .inl (d0, 16384, .inl g)), (k1, .inl (d2, 16464, .inl pk2))] H := hP
  have hD : va_D A [(x0, .inr (0, [.ref c1, .ref c2, .ref t1, .ref k1, .ref o1, .int (nI z1), .int ln, .int (nI bk)])), (c1, .inr (2, [])), (t1, .inl (d0, 16384, .inl g)), (k1, .inl (d2, 16464, .inl pk2))] := hD
  obtain ⟨e9, rfl, hw1, hw2, hw3⟩ := hw
  refine va_put (D := D) (ci := 0) (v := .int (nI e9)) (ty := .int) (C := RX0) (T := TX0) (N := 8) hx hb hts in_X0 tyX0 tyX0_ok nmX0 hown hK hP hD hS 0 rfl rfl 6 (by decide) (hts _ q67) (fun _ h9 => h9) rfl (by decide +kernel) rfl rfl (Nat.le_of_ble_eq_true rfl) dX0_pack_27 (fun H locs hP hD hS => ?_)
  have hP : va_P D vwCl [(x0, .inr (0, [.ref c1, .ref c2, .ref t1, .ref k1, .ref o1, .int (nI z1), .int (nI e9), .int (nI bk)])), (c1, .inr (2, [])), (t1, .inl (d0, 16384, .inl g)), (k1, .inl (d2, 16464, .inl pk2))] H := hP
  have hD : va_D A [(x0, .inr (0, [.ref c1, .ref c2, .ref t1, .ref k1, .ref o1, .int (nI z1), .int (nI e9), .int (nI bk)])), (c1, .inr (2, [])), (t1, .inl (d0, 16384, .inl g)), (k1, .inl (d2, 16464, .inl pk2))] := hD
  refine lv_aload_n hx hb dX0_pack_30 rfl (lv_at hl 0 rfl) ?_
  refine va_get (D := D) (ci := 0) (v := .int (nI e9)) (C := RX0) (T := TX0) (N := 8) hx hb hts in_X0 hown hK hP 0 rfl rfl 6 (by decide) (hts _ q67) (fun _ h9 => h9) rfl dX0_pack_31 ?_
  refine lv_aload_n hx hb dX0_pack_34 rfl (lv_at hl 0 rfl) ?_
  refine va_get (D := D) (ci := 0) (v := .int (nI z1)) (C := RX0) (T := TX0) (N := 8) hx hb hts in_X0 hown hK hP 0 rfl rfl 5 (by decide) (hts _ q66) (fun _ h9 => h9) rfl dX0_pack_35 ?_
  refine lv_aload_n hx hb dX0_pack_38 rfl (lv_at hl 0 rfl) ?_
  refine va_get (D := D) (ci := 0) (v := .int (nI z1)) (C := RX0) (T := TX0) (N := 8) hx hb hts in_X0 hown hK hP 0 rfl rfl 5 (by decide) (hts _ q66) (fun _ h9 => h9) rfl dX0_pack_39 ?_
  refine lv_sipush (v := nI 255) hx hb dX0_pack_42 (by decide +kernel) ?_
  refine n_idiv hx hb dX0_pack_45 (by omega) (by omega) (by omega) ?_
  refine n_iadd hx hb dX0_pack_46 ?_
  refine lv_bipush (v := nI 16) hx hb dX0_pack_47 (by decide +kernel) ?_
  refine n_iadd hx hb dX0_pack_49 ?_
  refine n_icmp_gt (tgt := 57) hx hb dX0_pack_50 (by decide) (by omega) (by omega) (fun c__1 => (by exfalso; omega)) (fun c__1 => ?_)
  refine lv_iconst (v := nI 1) hx hb dX0_pack_53 (by decide +kernel) ?_
  refine lv_goto (tgt := 58) hx hb dX0_pack_54 (by decide) ?_
  exact W.zret (v := nI 1) hx hb hr rfl (fun t ht hW => ⟨⟨nI 1, (pk2, nI e9), rfl, ⟨rfl, e9, rfl, by omega, hw1, hw3⟩, n_hP ht hP⟩, hS.F ht⟩) hS.2.2 dX0_pack_58

set_option maxHeartbeats 4000000 in
set_option maxRecDepth 100000 in
theorem mx_pack_m (l : Launch) (D : va_G) (x0 t1 k1 o1 : Nat) (z1 : Nat) (ln : Int32) (bk : Nat) (d0 : ClassId) (g : Nat → Int32) (d2 : ClassId) (pk : Nat → Int32) (hz : z1 ≤ 16384) (hg : aB g) (hp : aB pk) (sz : Nat) : Met l yX5_pack (ws_ yX5_pack cX5_pack 2 (some .boolean)) ({ frames := 1, cells := 0, slots := 0, locals := 100 }) (pcW [.ref x0] D vwCl [(x0, .inr (1, [.ref t1, .ref k1, .ref o1, .int (nI z1), .int ln, .int (nI bk)])), (t1, .inl (d0, 16384, .inl g)), (k1, .inl (d2, 16384, .inl pk))] [(d0, .byte), (d2, .byte)] sz) (va_Qi (fun (r : Int32) (u : (Nat → Int32) × Int32) => r = 1 ∧ u.2 = nI z1 ∧ (∀ j : Nat, j < z1 → u.1 j = g j) ∧ aB u.1) (fun (u : (Nat → Int32) × Int32) t => va_P D vwCl [(x0, .inr (1, [.ref t1, .ref k1, .ref o1, .int (nI z1), .int u.2, .int (nI bk)])), (t1, .inl (d0, 16384, .inl g)), (k1, .inl (d2, 16384, .inl u.1))] t.heap) (va_A [(x0, .inr (1, [.ref t1, .ref k1, .ref o1, .int (nI z1), .int ln, .int (nI bk)])), (t1, .inl (d0, 16384, .inl g)), (k1, .inl (d2, 16384, .inl pk))] sz)) 0 0 (va_A [(x0, .inr (1, [.ref t1, .ref k1, .ref o1, .int (nI z1), .int ln, .int (nI bk)])), (t1, .inl (d0, 16384, .inl g)), (k1, .inl (d2, 16384, .inl pk))] sz) := by
  refine n_metW (Qc := fun A => va_Qi (fun (r : Int32) (u : (Nat → Int32) × Int32) => r = 1 ∧ u.2 = nI z1 ∧ (∀ j : Nat, j < z1 → u.1 j = g j) ∧ aB u.1) (fun (u : (Nat → Int32) × Int32) t => va_P D vwCl [(x0, .inr (1, [.ref t1, .ref k1, .ref o1, .int (nI z1), .int u.2, .int (nI bk)])), (t1, .inl (d0, 16384, .inl g)), (k1, .inl (d2, 16384, .inl u.1))] t.heap) A) (by decide) (Nat.le_of_ble_eq_true rfl) ?_
  intro p e s m below meth c hx hb hr hlocks hml hown hin hts hP hK A hsz hD hA hS ls hl
  have hown : s.vm.findClass "BlockPackerModel" = some m.cls := hown
  have hl : lv_has ls 2 [(0, .ref x0)] := hl
  refine lv_iconst (v := nI 0) hx hb dX5_pack_0 (by decide +kernel) ?_
  refine lv_istore_n (lv' := [(1, .int (nI 0)), (0, .ref x0)]) hx hb dX5_pack_1 rfl hl (by decide) rfl (fun ls hl => ?_)
  refine n_loopAt 2 (fun n9 H locs ls cells slots => ∃ i : Nat, ∃ h : Nat → Int32, (n9 = z1 - i) ∧ (i ≤ z1) ∧ (∀ j : Nat, j < i → h j = g j) ∧ (aB h) ∧ lv_has ls 2 [(0, .ref x0), (1, .int (nI i))] ∧ va_P D vwCl [(x0, .inr (1, [.ref t1, .ref k1, .ref o1, .int (nI z1), .int ln, .int (nI bk)])), (t1, .inl (d0, 16384, .inl g)), (k1, .inl (d2, 16384, .inl h))] H ∧ va_D A [(x0, .inr (1, [.ref t1, .ref k1, .ref o1, .int (nI z1), .int ln, .int (nI bk)])), (t1, .inl (d0, 16384, .inl g)), (k1, .inl (d2, 16384, .inl h))] ∧ va_S A s.heap H locs ∧ cells = 0 ∧ slots = 0) z1 ⟨0, pk, rfl, by omega, fun j hj => absurd hj (by omega), hp, (lv_sub hl [1, 0] rfl), hP, hD, hS, rfl, rfl⟩ ?_
  clear hl hP hD hS
  intro n ih H locs ls cells slots hI
  obtain ⟨i, h, hn, hi, hk, hh, hl, hP, hD, hS, rfl, rfl⟩ := hI
  refine lv_iload_n hx hb dX5_pack_2 rfl (lv_at hl 1 rfl) ?_
  refine lv_aload_n hx hb dX5_pack_3 rfl (lv_at hl 0 rfl) ?_
  refine va_get (D := D) (ci := 1) (v := .int (nI z1)) (C := RX5) (T := TX5) (N := 6) hx hb hts in_X5 hown hK hP 0 rfl rfl 3 (by decide) (hts _ q629) (fun _ h9 => h9) rfl dX5_pack_4 ?_
  refine n_icmp_ge (tgt := 28) hx hb dX5_pack_7 (by decide) (by omega) (by omega) (fun c__1 => ?_) (fun c__1 => ?_)
  · refine lv_aload_n hx hb dX5_pack_28 rfl (lv_at hl 0 rfl) ?_
    refine lv_aload_n hx hb dX5_pack_29 rfl (lv_at hl 0 rfl) ?_
    refine va_get (D := D) (ci := 1) (v := .int (nI z1)) (C := RX5) (T := TX5) (N := 6) hx hb hts in_X5 hown hK hP 0 rfl rfl 3 (by decide) (hts _ q629) (fun _ h9 => h9) rfl dX5_pack_30 ?_
    refine va_put (D := D) (ci := 1) (v := .int (nI z1)) (ty := .int) (C := RX5) (T := TX5) (N := 6) hx hb hts in_X5 tyX5 tyX5_ok nmX5 hown hK hP hD hS 0 rfl rfl 4 (by decide) (hts _ q630) (fun _ h9 => h9) rfl (by decide +kernel) rfl rfl (Nat.le_of_ble_eq_true rfl) dX5_pack_33 (fun H locs hP hD hS => ?_)
    have hP : va_P D vwCl [(x0, .inr (1, [.ref t1, .ref k1, .ref o1, .int (nI z1), .int (nI z1), .int (nI bk)])), (t1, .inl (d0, 16384, .inl g)), (k1, .inl (d2, 16384, .inl h))] H := hP
    have hD : va_D A [(x0, .inr (1, [.ref t1, .ref k1, .ref o1, .int (nI z1), .int (nI z1), .int (nI bk)])), (t1, .inl (d0, 16384, .inl g)), (k1, .inl (d2, 16384, .inl h))] := hD
    refine lv_iconst (v := nI 1) hx hb dX5_pack_36 (by decide +kernel) ?_
    exact W.zret (v := nI 1) hx hb hr rfl (fun t ht hW => ⟨⟨nI 1, (h, nI z1), rfl, ⟨rfl, rfl, fun j hj => hk j (by omega), hh⟩, n_hP ht hP⟩, hS.F ht⟩) hS.2.2 dX5_pack_37
  · refine lv_aload_n hx hb dX5_pack_10 rfl (lv_at hl 0 rfl) ?_
    refine va_get (D := D) (ci := 1) (v := .ref k1) (C := RX5) (T := TX5) (N := 6) hx hb hts in_X5 hown hK hP 0 rfl rfl 1 (by decide) (hts _ q627) (fun _ h9 => h9) rfl dX5_pack_11 ?_
    refine lv_iload_n hx hb dX5_pack_14 rfl (lv_at hl 1 rfl) ?_
    refine lv_aload_n hx hb dX5_pack_15 rfl (lv_at hl 0 rfl) ?_
    refine va_get (D := D) (ci := 1) (v := .ref t1) (C := RX5) (T := TX5) (N := 6) hx hb hts in_X5 hown hK hP 0 rfl rfl 0 (by decide) (hts _ q626) (fun _ h9 => h9) rfl dX5_pack_16 ?_
    refine lv_iload_n hx hb dX5_pack_19 rfl (lv_at hl 1 rfl) ?_
    refine n_bald hx hb hK hP 1 0 rfl rfl (by omega) (by omega) dX5_pack_20 ?_
    refine n_bast hx hb hK hP hD hS 2 1 rfl rfl (by omega) (by omega) dX5_pack_21 (fun H locs hP hD hS => ?_)
    have hP : va_P D vwCl [(x0, .inr (1, [.ref t1, .ref k1, .ref o1, .int (nI z1), .int ln, .int (nI bk)])), (t1, .inl (d0, 16384, .inl g)), (k1, .inl (d2, 16384, .inl (upd h i (vp_nar .byte (g i)))))] H := hP
    have hD : va_D A [(x0, .inr (1, [.ref t1, .ref k1, .ref o1, .int (nI z1), .int ln, .int (nI bk)])), (t1, .inl (d0, 16384, .inl g)), (k1, .inl (d2, 16384, .inl (upd h i (vp_nar .byte (g i)))))] := hD
    refine lv_iinc (v := nI (i + 1)) (lv' := [(1, .int (nI (i + 1))), (0, .ref x0)]) hx hb dX5_pack_22 hl (k := 1) rfl (n_inc _ 1 (by decide +kernel)) (by decide) rfl (fun ls hl => ?_)
    refine lv_goto (tgt := 2) hx hb dX5_pack_25 (by decide) ?_
    refine ih (z1 - (i + 1)) (by omega) _ _ _ _ _ ⟨i + 1, upd h i (vp_nar .byte (g i)), rfl, by omega, fun j hj => ?_, aB_upd hh (bB_nar _), (lv_sub hl [1, 0] rfl), hP, hD, hS, rfl, rfl⟩
    rcases Nat.lt_or_ge j i with h9 | h9
    · rw [pk_un (by omega)]; exact hk j h9
    · rw [show j = i by omega, pk_us]; exact bB_id (hg _)

set_option maxHeartbeats 4000000 in
set_option maxRecDepth 100000 in
theorem mx_open_x (l : Launch) (D : va_G) (x0 c1 c2 t1 k1 o1 : Nat) (z1 : Nat) (ln : Int32) (bk : Nat) (d2 : ClassId) (pk : Nat → Int32) (d3 : ClassId) (g sr : Nat → Int32) (n : Nat) (hln : ln = -1 ∨ ∃ e9 : Nat, ln = nI e9 ∧ e9 ≤ 16464 ∧ zBlock sr pk n e9 ∧ n ≤ 16384) (hp : aB pk) (hg : aB g) (sz : Nat) : Met l yX0_open (ws_ yX0_open cX0_open 1 (some .int)) ({ frames := 6, cells := 0, slots := 0, locals := 700 }) (pcZ [.ref x0] D vwCl [(x0, .inr (0, [.ref c1, .ref c2, .ref t1, .ref k1, .ref o1, .int (nI z1), .int ln, .int (nI bk)])), (c2, .inr (3, [])), (k1, .inl (d2, 16464, .inl pk)), (o1, .inl (d3, 16384, .inl g))] [(d2, .byte), (d3, .byte)] sz) (va_Qi (fun (r : Int32) (u : (Nat → Int32) × Nat) => ((ln = -1 ∧ r = -1 ∧ u = (g, bk)) ∨ (¬ ln = -1 ∧ r = nI n ∧ u.2 = n ∧ ∀ j : Nat, j < n → u.1 j = sr j)) ∧ aB u.1) (fun (u : (Nat → Int32) × Nat) t => va_P D vwCl [(x0, .inr (0, [.ref c1, .ref c2, .ref t1, .ref k1, .ref o1, .int (nI z1), .int ln, .int (nI u.2)])), (c2, .inr (3, [])), (k1, .inl (d2, 16464, .inl pk)), (o1, .inl (d3, 16384, .inl u.1))] t.heap) (va_A [(x0, .inr (0, [.ref c1, .ref c2, .ref t1, .ref k1, .ref o1, .int (nI z1), .int ln, .int (nI bk)])), (c2, .inr (3, [])), (k1, .inl (d2, 16464, .inl pk)), (o1, .inl (d3, 16384, .inl g))] sz)) 0 0 (va_A [(x0, .inr (0, [.ref c1, .ref c2, .ref t1, .ref k1, .ref o1, .int (nI z1), .int ln, .int (nI bk)])), (c2, .inr (3, [])), (k1, .inl (d2, 16464, .inl pk)), (o1, .inl (d3, 16384, .inl g))] sz) := by
  refine n_metZ (Qc := fun A => va_Qi (fun (r : Int32) (u : (Nat → Int32) × Nat) => ((ln = -1 ∧ r = -1 ∧ u = (g, bk)) ∨ (¬ ln = -1 ∧ r = nI n ∧ u.2 = n ∧ ∀ j : Nat, j < n → u.1 j = sr j)) ∧ aB u.1) (fun (u : (Nat → Int32) × Nat) t => va_P D vwCl [(x0, .inr (0, [.ref c1, .ref c2, .ref t1, .ref k1, .ref o1, .int (nI z1), .int ln, .int (nI u.2)])), (c2, .inr (3, [])), (k1, .inl (d2, 16464, .inl pk)), (o1, .inl (d3, 16384, .inl u.1))] t.heap) A) (by decide) (Nat.le_of_ble_eq_true rfl) ?_
  intro p e s m below meth c hx hb hr hlocks hml hown hin hts hP hK A hsz hD hA hS hZ ls hl
  have hown : s.vm.findClass "BlockPacker" = some m.cls := hown
  have hl : lv_has ls 1 [(0, .ref x0)] := hl
  rcases hln with rfl | ⟨e9, rfl, he, hzb, hn⟩
  · refine lv_aload_n hx hb dX0_open_0 rfl (lv_at hl 0 rfl) ?_
    refine va_get (D := D) (ci := 0) (v := .int ((-1))) (C := RX0) (T := TX0) (N := 8) hx hb hts in_X0 hown hK hP 0 rfl rfl 6 (by decide) (hts _ q67) (fun _ h9 => h9) rfl dX0_open_1 ?_
    refine lv_if_ge (tgt := 9) hx hb dX0_open_4 (by decide) (fun c__1 => absurd c__1 (by decide)) (fun c__1 => ?_)
    refine lv_iconst (v := -1) hx hb dX0_open_7 (by decide +kernel) ?_
    exact W.iret (v := (-1)) hx hb hr (fun t ht hW => ⟨⟨(-1), (g, bk), rfl, ⟨Or.inl ⟨rfl, rfl, rfl⟩, hg⟩, n_hP ht hP⟩, hS.F ht⟩) hS.2.2 dX0_open_8
  · refine lv_aload_n hx hb dX0_open_0 rfl (lv_at hl 0 rfl) ?_
    refine va_get (D := D) (ci := 0) (v := .int (nI e9)) (C := RX0) (T := TX0) (N := 8) hx hb hts in_X0 hown hK hP 0 rfl rfl 6 (by decide) (hts _ q67) (fun _ h9 => h9) rfl dX0_open_1 ?_
    refine n_if_ge (tgt := 9) hx hb dX0_open_4 (by decide) (by omega) ?_
    refine lv_aload_n hx hb dX0_open_9 rfl (lv_at hl 0 rfl) ?_
    refine lv_aload_n hx hb dX0_open_10 rfl (lv_at hl 0 rfl) ?_
    refine va_get (D := D) (ci := 0) (v := .ref c2) (C := RX0) (T := TX0) (N := 8) hx hb hts in_X0 hown hK hP 0 rfl rfl 1 (by decide) (hts _ q62) (fun _ h9 => h9) rfl dX0_open_11 ?_
    refine lv_aload_n hx hb dX0_open_14 rfl (lv_at hl 0 rfl) ?_
    refine va_get (D := D) (ci := 0) (v := .ref k1) (C := RX0) (T := TX0) (N := 8) hx hb hts in_X0 hown hK hP 0 rfl rfl 3 (by decide) (hts _ q64) (fun _ h9 => h9) rfl dX0_open_15 ?_
    refine lv_iconst (v := nI 0) hx hb dX0_open_18 (by decide +kernel) ?_
    refine lv_aload_n hx hb dX0_open_19 rfl (lv_at hl 0 rfl) ?_
    refine va_get (D := D) (ci := 0) (v := .int (nI e9)) (C := RX0) (T := TX0) (N := 8) hx hb hts in_X0 hown hK hP 0 rfl rfl 6 (by decide) (hts _ q67) (fun _ h9 => h9) rfl dX0_open_20 ?_
    refine lv_aload_n hx hb dX0_open_23 rfl (lv_at hl 0 rfl) ?_
    refine va_get (D := D) (ci := 0) (v := .ref o1) (C := RX0) (T := TX0) (N := 8) hx hb hts in_X0 hown hK hP 0 rfl rfl 4 (by decide) (hts _ q65) (fun _ h9 => h9) rfl dX0_open_24 ?_
    refine lv_iconst (v := nI 0) hx hb dX0_open_27 (by decide +kernel) ?_
    refine lv_aload_n hx hb dX0_open_28 rfl (lv_at hl 0 rfl) ?_
    refine va_get (D := D) (ci := 0) (v := .ref o1) (C := RX0) (T := TX0) (N := 8) hx hb hts in_X0 hown hK hP 0 rfl rfl 4 (by decide) (hts _ q65) (fun _ h9 => h9) rfl dX0_open_29 ?_
    refine va_alen (v := nI 16384) hx hb hK hP 3 1 rfl rfl rfl dX0_open_32 ?_
    refine n_calli (va_runU (As := [.ref k1, .int (nI 0), .int (nI e9), .ref o1, .int (nI 0), .int (nI 16384)]) (rest := [.ref x0]) ⟨hx, hb, hml, hown, hts⟩ (mt_decompress l D vwCl c2 k1 d2 pk o1 d3 g sr n e9 hn he hzb hp hg s.heap.size) (va_cwA 6 hts (lw_U q340 q342 q343 q344 q7 q345) rfl rfl rfl hZ.2.2 (by decide +kernel) ⟨Nat.le_of_ble_eq_true rfl, Nat.le_of_ble_eq_true rfl⟩) (pcW_preV (hP.sub [2, 3] rfl) (hK.sub [0, 1] rfl) (hD.sub [2, 3] (by decide) rfl) (va_recv hK hP (ci := 3) (q0 := 1) rfl rfl)) rfl rfl hl.1 rfl (lv_room (Nat.le_of_ble_eq_true rfl)) dX0_open_33 ⟨Nat.le_of_ble_eq_true rfl, Nat.le_of_ble_eq_true rfl⟩) hP hD hS hA [2, 3] rfl (fun _ => rfl) (fun r1 g2 H locs hw hP hD hS => ?_)
    have hP : va_P D vwCl [(x0, .inr (0, [.ref c1, .ref c2, .ref t1, .ref k1, .ref o1, .int (nI z1), .int (nI e9), .int (nI bk)])), (c2, .inr (3, [])), (k1, .inl (d2, 16464, .inl pk)), (o1, .inl (d3, 16384, .inl g2))] H := hP
    have hD : va_D A [(x0, .inr (0, [.ref c1, .ref c2, .ref t1, .ref k1, .ref o1, .int (nI z1), .int (nI e9), .int (nI bk)])), (c2, .inr (3, [])), (k1, .inl (d2, 16464, .inl pk)), (o1, .inl (d3, 16384, .inl g2))] := hD
    obtain ⟨rfl, hw1, hw2⟩ := hw
    refine va_put (D := D) (ci := 0) (v := .int (nI n)) (ty := .int) (C := RX0) (T := TX0) (N := 8) hx hb hts in_X0 tyX0 tyX0_ok nmX0 hown hK hP hD hS 0 rfl rfl 7 (by decide) (hts _ q68) (fun _ h9 => h9) rfl (by decide +kernel) rfl rfl (Nat.le_of_ble_eq_true rfl) dX0_open_36 (fun H locs hP hD hS => ?_)
    have hP : va_P D vwCl [(x0, .inr (0, [.ref c1, .ref c2, .ref t1, .ref k1, .ref o1, .int (nI z1), .int (nI e9), .int (nI n)])), (c2, .inr (3, [])), (k1, .inl (d2, 16464, .inl pk)), (o1, .inl (d3, 16384, .inl g2))] H := hP
    have hD : va_D A [(x0, .inr (0, [.ref c1, .ref c2, .ref t1, .ref k1, .ref o1, .int (nI z1), .int (nI e9), .int (nI n)])), (c2, .inr (3, [])), (k1, .inl (d2, 16464, .inl pk)), (o1, .inl (d3, 16384, .inl g2))] := hD
    refine lv_aload_n hx hb dX0_open_39 rfl (lv_at hl 0 rfl) ?_
    refine va_get (D := D) (ci := 0) (v := .int (nI n)) (C := RX0) (T := TX0) (N := 8) hx hb hts in_X0 hown hK hP 0 rfl rfl 7 (by decide) (hts _ q68) (fun _ h9 => h9) rfl dX0_open_40 ?_
    exact W.iret (v := nI n) hx hb hr (fun t ht hW => ⟨⟨nI n, (g2, n), rfl, ⟨Or.inr ⟨nI_ne_m1 (by omega), rfl, rfl, hw1⟩, hw2⟩, n_hP ht hP⟩, hS.F ht⟩) hS.2.2 dX0_open_43

set_option maxHeartbeats 4000000 in
set_option maxRecDepth 100000 in
theorem mx_open_m (l : Launch) (D : va_G) (x0 t1 k1 o1 : Nat) (z1 : Nat) (ln : Int32) (bk : Nat) (d2 : ClassId) (pk : Nat → Int32) (d3 : ClassId) (g : Nat → Int32) (n : Nat) (hln : ln = -1 ∨ ln = nI n ∧ n ≤ 16384) (hp : aB pk) (hg : aB g) (sz : Nat) : Met l yX5_open (ws_ yX5_open cX5_open 2 (some .int)) ({ frames := 1, cells := 0, slots := 0, locals := 100 }) (pcW [.ref x0] D vwCl [(x0, .inr (1, [.ref t1, .ref k1, .ref o1, .int (nI z1), .int ln, .int (nI bk)])), (k1, .inl (d2, 16384, .inl pk)), (o1, .inl (d3, 16384, .inl g))] [(d2, .byte), (d3, .byte)] sz) (va_Qi (fun (r : Int32) (u : (Nat → Int32) × Nat) => ((ln = -1 ∧ r = -1 ∧ u = (g, bk)) ∨ (¬ ln = -1 ∧ r = nI n ∧ u.2 = n ∧ ∀ j : Nat, j < n → u.1 j = pk j)) ∧ aB u.1) (fun (u : (Nat → Int32) × Nat) t => va_P D vwCl [(x0, .inr (1, [.ref t1, .ref k1, .ref o1, .int (nI z1), .int ln, .int (nI u.2)])), (k1, .inl (d2, 16384, .inl pk)), (o1, .inl (d3, 16384, .inl u.1))] t.heap) (va_A [(x0, .inr (1, [.ref t1, .ref k1, .ref o1, .int (nI z1), .int ln, .int (nI bk)])), (k1, .inl (d2, 16384, .inl pk)), (o1, .inl (d3, 16384, .inl g))] sz)) 0 0 (va_A [(x0, .inr (1, [.ref t1, .ref k1, .ref o1, .int (nI z1), .int ln, .int (nI bk)])), (k1, .inl (d2, 16384, .inl pk)), (o1, .inl (d3, 16384, .inl g))] sz) := by
  refine n_metW (Qc := fun A => va_Qi (fun (r : Int32) (u : (Nat → Int32) × Nat) => ((ln = -1 ∧ r = -1 ∧ u = (g, bk)) ∨ (¬ ln = -1 ∧ r = nI n ∧ u.2 = n ∧ ∀ j : Nat, j < n → u.1 j = pk j)) ∧ aB u.1) (fun (u : (Nat → Int32) × Nat) t => va_P D vwCl [(x0, .inr (1, [.ref t1, .ref k1, .ref o1, .int (nI z1), .int ln, .int (nI u.2)])), (k1, .inl (d2, 16384, .inl pk)), (o1, .inl (d3, 16384, .inl u.1))] t.heap) A) (by decide) (Nat.le_of_ble_eq_true rfl) ?_
  intro p e s m below meth c hx hb hr hlocks hml hown hin hts hP hK A hsz hD hA hS ls hl
  have hown : s.vm.findClass "BlockPackerModel" = some m.cls := hown
  have hl : lv_has ls 2 [(0, .ref x0)] := hl
  rcases hln with rfl | ⟨rfl, hn⟩
  · refine lv_aload_n hx hb dX5_open_0 rfl (lv_at hl 0 rfl) ?_
    refine va_get (D := D) (ci := 1) (v := .int ((-1))) (C := RX5) (T := TX5) (N := 6) hx hb hts in_X5 hown hK hP 0 rfl rfl 4 (by decide) (hts _ q630) (fun _ h9 => h9) rfl dX5_open_1 ?_
    refine lv_if_ge (tgt := 9) hx hb dX5_open_4 (by decide) (fun c__1 => absurd c__1 (by decide)) (fun c__1 => ?_)
    refine lv_iconst (v := -1) hx hb dX5_open_7 (by decide +kernel) ?_
    exact W.iret (v := (-1)) hx hb hr (fun t ht hW => ⟨⟨(-1), (g, bk), rfl, ⟨Or.inl ⟨rfl, rfl, rfl⟩, hg⟩, n_hP ht hP⟩, hS.F ht⟩) hS.2.2 dX5_open_8
  · refine lv_aload_n hx hb dX5_open_0 rfl (lv_at hl 0 rfl) ?_
    refine va_get (D := D) (ci := 1) (v := .int (nI n)) (C := RX5) (T := TX5) (N := 6) hx hb hts in_X5 hown hK hP 0 rfl rfl 4 (by decide) (hts _ q630) (fun _ h9 => h9) rfl dX5_open_1 ?_
    refine n_if_ge (tgt := 9) hx hb dX5_open_4 (by decide) (by omega) ?_
    refine lv_iconst (v := nI 0) hx hb dX5_open_9 (by decide +kernel) ?_
    refine lv_istore_n (lv' := [(1, .int (nI 0)), (0, .ref x0)]) hx hb dX5_open_10 rfl hl (by decide) rfl (fun ls hl => ?_)
    refine n_loopAt 11 (fun n9 H locs ls cells slots => ∃ i : Nat, ∃ h : Nat → Int32, (n9 = n - i) ∧ (i ≤ n) ∧ (∀ j : Nat, j < i → h j = pk j) ∧ (aB h) ∧ lv_has ls 2 [(0, .ref x0), (1, .int (nI i))] ∧ va_P D vwCl [(x0, .inr (1, [.ref t1, .ref k1, .ref o1, .int (nI z1), .int (nI n), .int (nI bk)])), (k1, .inl (d2, 16384, .inl pk)), (o1, .inl (d3, 16384, .inl h))] H ∧ va_D A [(x0, .inr (1, [.ref t1, .ref k1, .ref o1, .int (nI z1), .int (nI n), .int (nI bk)])), (k1, .inl (d2, 16384, .inl pk)), (o1, .inl (d3, 16384, .inl h))] ∧ va_S A s.heap H locs ∧ cells = 0 ∧ slots = 0) n ⟨0, g, rfl, by omega, fun j hj => absurd hj (by omega), hg, (lv_sub hl [1, 0] rfl), hP, hD, hS, rfl, rfl⟩ ?_
    clear hl hP hD hS
    intro n8 ih H locs ls cells slots hI
    obtain ⟨i, h, hn8, hi, hk, hh, hl, hP, hD, hS, rfl, rfl⟩ := hI
    refine lv_iload_n hx hb dX5_open_11 rfl (lv_at hl 1 rfl) ?_
    refine lv_aload_n hx hb dX5_open_12 rfl (lv_at hl 0 rfl) ?_
    refine va_get (D := D) (ci := 1) (v := .int (nI n)) (C := RX5) (T := TX5) (N := 6) hx hb hts in_X5 hown hK hP 0 rfl rfl 4 (by decide) (hts _ q630) (fun _ h9 => h9) rfl dX5_open_13 ?_
    refine n_icmp_ge (tgt := 37) hx hb dX5_open_16 (by decide) (by omega) (by omega) (fun c__3 => ?_) (fun c__3 => ?_)
    · refine lv_aload_n hx hb dX5_open_37 rfl (lv_at hl 0 rfl) ?_
      refine lv_aload_n hx hb dX5_open_38 rfl (lv_at hl 0 rfl) ?_
      refine va_get (D := D) (ci := 1) (v := .int (nI n)) (C := RX5) (T := TX5) (N := 6) hx hb hts in_X5 hown hK hP 0 rfl rfl 4 (by decide) (hts _ q630) (fun _ h9 => h9) rfl dX5_open_39 ?_
      refine va_put (D := D) (ci := 1) (v := .int (nI n)) (ty := .int) (C := RX5) (T := TX5) (N := 6) hx hb hts in_X5 tyX5 tyX5_ok nmX5 hown hK hP hD hS 0 rfl rfl 5 (by decide) (hts _ q631) (fun _ h9 => h9) rfl (by decide +kernel) rfl rfl (Nat.le_of_ble_eq_true rfl) dX5_open_42 (fun H locs hP hD hS => ?_)
      have hP : va_P D vwCl [(x0, .inr (1, [.ref t1, .ref k1, .ref o1, .int (nI z1), .int (nI n), .int (nI n)])), (k1, .inl (d2, 16384, .inl pk)), (o1, .inl (d3, 16384, .inl h))] H := hP
      have hD : va_D A [(x0, .inr (1, [.ref t1, .ref k1, .ref o1, .int (nI z1), .int (nI n), .int (nI n)])), (k1, .inl (d2, 16384, .inl pk)), (o1, .inl (d3, 16384, .inl h))] := hD
      refine lv_aload_n hx hb dX5_open_45 rfl (lv_at hl 0 rfl) ?_
      refine va_get (D := D) (ci := 1) (v := .int (nI n)) (C := RX5) (T := TX5) (N := 6) hx hb hts in_X5 hown hK hP 0 rfl rfl 5 (by decide) (hts _ q631) (fun _ h9 => h9) rfl dX5_open_46 ?_
      exact W.iret (v := nI n) hx hb hr (fun t ht hW => ⟨⟨nI n, (h, n), rfl, ⟨Or.inr ⟨nI_ne_m1 (by omega), rfl, rfl, fun j hj => hk j (by omega)⟩, hh⟩, n_hP ht hP⟩, hS.F ht⟩) hS.2.2 dX5_open_49
    · refine lv_aload_n hx hb dX5_open_19 rfl (lv_at hl 0 rfl) ?_
      refine va_get (D := D) (ci := 1) (v := .ref o1) (C := RX5) (T := TX5) (N := 6) hx hb hts in_X5 hown hK hP 0 rfl rfl 2 (by decide) (hts _ q628) (fun _ h9 => h9) rfl dX5_open_20 ?_
      refine lv_iload_n hx hb dX5_open_23 rfl (lv_at hl 1 rfl) ?_
      refine lv_aload_n hx hb dX5_open_24 rfl (lv_at hl 0 rfl) ?_
      refine va_get (D := D) (ci := 1) (v := .ref k1) (C := RX5) (T := TX5) (N := 6) hx hb hts in_X5 hown hK hP 0 rfl rfl 1 (by decide) (hts _ q627) (fun _ h9 => h9) rfl dX5_open_25 ?_
      refine lv_iload_n hx hb dX5_open_28 rfl (lv_at hl 1 rfl) ?_
      refine n_bald hx hb hK hP 1 0 rfl rfl (by omega) (by omega) dX5_open_29 ?_
      refine n_bast hx hb hK hP hD hS 2 1 rfl rfl (by omega) (by omega) dX5_open_30 (fun H locs hP hD hS => ?_)
      have hP : va_P D vwCl [(x0, .inr (1, [.ref t1, .ref k1, .ref o1, .int (nI z1), .int (nI n), .int (nI bk)])), (k1, .inl (d2, 16384, .inl pk)), (o1, .inl (d3, 16384, .inl (upd h i (vp_nar .byte (pk i)))))] H := hP
      have hD : va_D A [(x0, .inr (1, [.ref t1, .ref k1, .ref o1, .int (nI z1), .int (nI n), .int (nI bk)])), (k1, .inl (d2, 16384, .inl pk)), (o1, .inl (d3, 16384, .inl (upd h i (vp_nar .byte (pk i)))))] := hD
      refine lv_iinc (v := nI (i + 1)) (lv' := [(1, .int (nI (i + 1))), (0, .ref x0)]) hx hb dX5_open_31 hl (k := 1) rfl (n_inc _ 1 (by decide +kernel)) (by decide) rfl (fun ls hl => ?_)
      refine lv_goto (tgt := 11) hx hb dX5_open_34 (by decide) ?_
      refine ih (n - (i + 1)) (by omega) _ _ _ _ _ ⟨i + 1, upd h i (vp_nar .byte (pk i)), rfl, by omega, fun j hj => ?_, aB_upd hh (bB_nar _), (lv_sub hl [1, 0] rfl), hP, hD, hS, rfl, rfl⟩
      rcases Nat.lt_or_ge j i with h9 | h9
      · rw [pk_un (by omega)]; exact hk j h9
      · rw [show j = i by omega, pk_us]; exact bB_id (hp _)
end
section
/-! constructors -/
theorem in_Z9 {C : String} : ∀ w ∈ u_ws C TZ9 0, w ∈ lw_all := fun w h => absurd h List.not_mem_nil

set_option maxHeartbeats 4000000 in
set_option maxRecDepth 100000 in
theorem mi_X1 (l : Launch) (D : va_G) (cl : List vw_C) (x0 : Nat) : Met l yX1_init (ws_ yX1_init cX1_init 1 (none)) ({ frames := 1, cells := 0, slots := 0, locals := 50 }) (pcR [.ref x0] D cl [] []) (va_Sv (fun _ => True)) 0 0 (fun _ => False) := by
  refine n_metR (by decide) (Nat.le_of_ble_eq_true rfl) ?_
  intro p e s m below meth c hx hb hr hlocks hml hown hin hts hP hK ls hl
  have hown : s.vm.findClass "LZ4Compressor" = some m.cls := hown
  have hl : lv_has ls 1 [(0, .ref x0)] := hl
  refine lv_aload_n hx hb dX1_init_0 rfl (lv_at hl 0 rfl) ?_
  refine W.objInit hx hb hown (hts _ q49) (hts _ q39) (hts _ q40) rfl (by rw [hml]; exact hl.1) rfl dX1_init_1 (Nat.le_of_ble_eq_true rfl) (Nat.le_of_ble_eq_true rfl) ?_
  refine W.eq (g2 := F0 m 4 ls []) rfl ?_
  exact W.vret hx hb hr (fun t ht hW => ⟨rfl, trivial, ht⟩) (fun _ h9 => nomatch h9) dX1_init_4

set_option maxHeartbeats 4000000 in
set_option maxRecDepth 100000 in
theorem mi_X3 (l : Launch) (D : va_G) (cl : List vw_C) (x0 : Nat) : Met l yX3_init (ws_ yX3_init cX3_init 1 (none)) ({ frames := 1, cells := 0, slots := 0, locals := 50 }) (pcR [.ref x0] D cl [] []) (va_Sv (fun _ => True)) 0 0 (fun _ => False) := by
  refine n_metR (by decide) (Nat.le_of_ble_eq_true rfl) ?_
  intro p e s m below meth c hx hb hr hlocks hml hown hin hts hP hK ls hl
  have hown : s.vm.findClass "LZ4SafeDecompressor" = some m.cls := hown
  have hl : lv_has ls 1 [(0, .ref x0)] := hl
  refine lv_aload_n hx hb dX3_init_0 rfl (lv_at hl 0 rfl) ?_
  refine W.objInit hx hb hown (hts _ q59) (hts _ q39) (hts _ q40) rfl (by rw [hml]; exact hl.1) rfl dX3_init_1 (Nat.le_of_ble_eq_true rfl) (Nat.le_of_ble_eq_true rfl) ?_
  refine W.eq (g2 := F0 m 4 ls []) rfl ?_
  exact W.vret hx hb hr (fun t ht hW => ⟨rfl, trivial, ht⟩) (fun _ h9 => nomatch h9) dX3_init_4

set_option maxHeartbeats 4000000 in
set_option maxRecDepth 100000 in
theorem mi_X2 (l : Launch) (D : va_G) (cl : List vw_C) (x0 : Nat) : Met l yX2_init (ws_ yX2_init cX2_init 1 (none)) ({ frames := 2, cells := 0, slots := 0, locals := 100 }) (pcR [.ref x0] D cl [] []) (va_Sv (fun _ => True)) 0 0 (fun _ => False) := by
  refine n_metR (by decide) (Nat.le_of_ble_eq_true rfl) ?_
  intro p e s m below meth c hx hb hr hlocks hml hown hin hts hP hK ls hl
  have hown : s.vm.findClass "LZ4JavaSafeCompressor" = some m.cls := hown
  have hl : lv_has ls 1 [(0, .ref x0)] := hl
  refine lv_aload_n hx hb dX2_init_0 rfl (lv_at hl 0 rfl) ?_
  refine va_csv (W.runI (As := []) (rest := []) ⟨hx, hb, hml, hown, hts⟩ (mi_X1 l D cl x0) (cwI 0 hts (lw_meth q48) rfl rfl rfl (hts _ q4) (hts _ q46) (hts _ q47) rfl (by decide +kernel) ⟨Nat.le_of_ble_eq_true rfl, Nat.le_of_ble_eq_true rfl⟩) (pcR_pre (hP.sub [] rfl) (hK.sub [] rfl)) rfl rfl hl.1 rfl (lv_room (Nat.le_of_ble_eq_true rfl)) dX2_init_1 ⟨Nat.le_of_ble_eq_true rfl, Nat.le_of_ble_eq_true rfl⟩) (fun _ => ?_)
  exact W.vret hx hb hr (fun t ht hW => ⟨rfl, trivial, ht⟩) (fun _ h9 => nomatch h9) dX2_init_4

set_option maxHeartbeats 4000000 in
set_option maxRecDepth 100000 in
theorem mi_X4 (l : Launch) (D : va_G) (cl : List vw_C) (x0 : Nat) : Met l yX4_init (ws_ yX4_init cX4_init 1 (none)) ({ frames := 2, cells := 0, slots := 0, locals := 100 }) (pcR [.ref x0] D cl [] []) (va_Sv (fun _ => True)) 0 0 (fun _ => False) := by
  refine n_metR (by decide) (Nat.le_of_ble_eq_true rfl) ?_
  intro p e s m below meth c hx hb hr hlocks hml hown hin hts hP hK ls hl
  have hown : s.vm.findClass "LZ4JavaSafeSafeDecompressor" = some m.cls := hown
  have hl : lv_has ls 1 [(0, .ref x0)] := hl
  refine lv_aload_n hx hb dX4_init_0 rfl (lv_at hl 0 rfl) ?_
  refine va_csv (W.runI (As := []) (rest := []) ⟨hx, hb, hml, hown, hts⟩ (mi_X3 l D cl x0) (cwI 0 hts (lw_meth q58) rfl rfl rfl (hts _ q6) (hts _ q56) (hts _ q57) rfl (by decide +kernel) ⟨Nat.le_of_ble_eq_true rfl, Nat.le_of_ble_eq_true rfl⟩) (pcR_pre (hP.sub [] rfl) (hK.sub [] rfl)) rfl rfl hl.1 rfl (lv_room (Nat.le_of_ble_eq_true rfl)) dX4_init_1 ⟨Nat.le_of_ble_eq_true rfl, Nat.le_of_ble_eq_true rfl⟩) (fun _ => ?_)
  exact W.vret hx hb hr (fun t ht hW => ⟨rfl, trivial, ht⟩) (fun _ h9 => nomatch h9) dX4_init_4

set_option maxHeartbeats 4000000 in
set_option maxRecDepth 100000 in
/-- BlockPacker(): its two workers, three arrays of noughts -/
theorem mi_X0 (l : Launch) (D : va_G) (x0 : Nat) (sz : Nat) : Met l yX0_init (ws_ yX0_init cX0_init 1 (none)) ({ frames := 3, cells := 5, slots := 49232, locals := 200 }) (pcW [.ref x0] D vwCl [(x0, .inr (0, [.null, .null, .null, .null, .null, .int 0, .int 0, .int 0]))] [] sz) (va_Qv (fun (u : Unit) => True) (fun (u : Unit) t => ∃ (c1 c2 t1 k1 o1 : Nat) (d1 d2 d3 : ClassId), va_P D vwCl [(x0, .inr (0, [.ref c1, .ref c2, .ref t1, .ref k1, .ref o1, .int (nI 0), .int ((-1)), .int (nI 0)])), (c1, .inr (2, [])), (c2, .inr (3, [])), (t1, .inl (d1, 16384, .inl ((fun _ => 0)))), (k1, .inl (d2, 16464, .inl ((fun _ => 0)))), (o1, .inl (d3, 16384, .inl ((fun _ => 0))))] t.heap ∧ va_K D vwCl [(d1, .byte), (d2, .byte), (d3, .byte)] t ∧ va_D (va_A [(x0, .inr (0, [.null, .null, .null, .null, .null, .int 0, .int 0, .int 0]))] sz) [(x0, .inr (0, [.ref c1, .ref c2, .ref t1, .ref k1, .ref o1, .int (nI 0), .int ((-1)), .int (nI 0)])), (c1, .inr (2, [])), (c2, .inr (3, [])), (t1, .inl (d1, 16384, .inl ((fun _ => 0)))), (k1, .inl (d2, 16464, .inl ((fun _ => 0)))), (o1, .inl (d3, 16384, .inl ((fun _ => 0))))]) (va_A [(x0, .inr (0, [.null, .null, .null, .null, .null, .int 0, .int 0, .int 0]))] sz)) 5 49232 (va_A [(x0, .inr (0, [.null, .null, .null, .null, .null, .int 0, .int 0, .int 0]))] sz) := by
  refine n_metW (Qc := fun A => va_Qv (fun (u : Unit) => True) (fun (u : Unit) t => ∃ (c1 c2 t1 k1 o1 : Nat) (d1 d2 d3 : ClassId), va_P D vwCl [(x0, .inr (0, [.ref c1, .ref c2, .ref t1, .ref k1, .ref o1, .int (nI 0), .int ((-1)), .int (nI 0)])), (c1, .inr (2, [])), (c2, .inr (3, [])), (t1, .inl (d1, 16384, .inl ((fun _ => 0)))), (k1, .inl (d2, 16464, .inl ((fun _ => 0)))), (o1, .inl (d3, 16384, .inl ((fun _ => 0))))] t.heap ∧ va_K D vwCl [(d1, .byte), (d2, .byte), (d3, .byte)] t ∧ va_D A [(x0, .inr (0, [.ref c1, .ref c2, .ref t1, .ref k1, .ref o1, .int (nI 0), .int ((-1)), .int (nI 0)])), (c1, .inr (2, [])), (c2, .inr (3, [])), (t1, .inl (d1, 16384, .inl ((fun _ => 0)))), (k1, .inl (d2, 16464, .inl ((fun _ => 0)))), (o1, .inl (d3, 16384, .inl ((fun _ => 0))))]) A) (by decide) (Nat.le_of_ble_eq_true rfl) ?_
  intro p e s m below meth c hx hb hr hlocks hml hown hin hts hP hK A hsz hD hA hS ls hl
  have hown : s.vm.findClass "BlockPacker" = some m.cls := hown
  have hl : lv_has ls 1 [(0, .ref x0)] := hl
  refine lv_aload_n hx hb dX0_init_0 rfl (lv_at hl 0 rfl) ?_
  refine W.objInit hx hb hown (hts _ q38) (hts _ q39) (hts _ q40) rfl (by rw [hml]; exact hl.1) rfl dX0_init_1 (Nat.le_of_ble_eq_true rfl) (Nat.le_of_ble_eq_true rfl) ?_
  refine W.eq (g2 := F0 m 4 ls []) rfl ?_
  refine lv_aload_n hx hb dX0_init_4 rfl (lv_at hl 0 rfl) ?_
  refine va_new (ci := 2) (fs := []) (C := RX2) (T := TZ9) (N := 0) hx hb hts in_Z9 (fun _ => .int) (fun k hk => absurd hk (Nat.not_lt_zero _)) hown (hts _ q41) (hts _ q42) (hts _ q5) hK hP hD hS hA rfl (fun j hj => absurd hj (Nat.not_lt_zero _)) (Nat.le_of_ble_eq_true rfl) (Nat.le_of_ble_eq_true rfl) dX0_init_5 (fun c1 H hP hD hS => ?_)
  have hP : va_P D vwCl [(x0, .inr (0, [.null, .null, .null, .null, .null, .int 0, .int 0, .int 0])), (c1, .inr (2, []))] H := hP
  have hD : va_D A [(x0, .inr (0, [.null, .null, .null, .null, .null, .int 0, .int 0, .int 0])), (c1, .inr (2, []))] := hD
  refine lv_dup hx hb dX0_init_8 rfl ?_
  refine va_csv (W.runI (As := []) (rest := [.ref c1, .ref x0]) ⟨hx, hb, hml, hown, hts⟩ (mi_X2 l D vwCl c1) (cwI 0 hts (lw_meth q45) rfl rfl rfl (hts _ q5) (hts _ q43) (hts _ q44) rfl (by decide +kernel) ⟨Nat.le_of_ble_eq_true rfl, Nat.le_of_ble_eq_true rfl⟩) (pcR_pre (hP.sub [] rfl) (hK.sub [] rfl)) rfl rfl hl.1 rfl (lv_room (Nat.le_of_ble_eq_true rfl)) dX0_init_9 ⟨Nat.le_of_ble_eq_true rfl, Nat.le_of_ble_eq_true rfl⟩) (fun _ => ?_)
  refine va_putF (D := D) (ci := 0) (v := .ref c1) (ty := (.object "LZ4Compressor")) (C := RX0) (T := TX0) (N := 8) hx hb hts in_X0 tyX0 tyX0_ok nmX0 hown hK hP hD hS 0 rfl rfl 0 (by decide) (hts _ q61) (fun _ h9 => h9) rfl hin rfl (by decide +kernel) rfl rfl (Nat.le_of_ble_eq_true rfl) dX0_init_12 (fun H locs hP hD hS => ?_)
  have hP : va_P D vwCl [(x0, .inr (0, [.ref c1, .null, .null, .null, .null, .int 0, .int 0, .int 0])), (c1, .inr (2, []))] H := hP
  have hD : va_D A [(x0, .inr (0, [.ref c1, .null, .null, .null, .null, .int 0, .int 0, .int 0])), (c1, .inr (2, []))] := hD
  refine lv_aload_n hx hb dX0_init_15 rfl (lv_at hl 0 rfl) ?_
  refine va_new (ci := 3) (fs := []) (C := RX4) (T := TZ9) (N := 0) hx hb hts in_Z9 (fun _ => .int) (fun k hk => absurd hk (Nat.not_lt_zero _)) hown (hts _ q51) (hts _ q52) (hts _ q7) hK hP hD hS hA rfl (fun j hj => absurd hj (Nat.not_lt_zero _)) (Nat.le_of_ble_eq_true rfl) (Nat.le_of_ble_eq_true rfl) dX0_init_16 (fun c2 H hP hD hS => ?_)
  have hP : va_P D vwCl [(x0, .inr (0, [.ref c1, .null, .null, .null, .null, .int 0, .int 0, .int 0])), (c1, .inr (2, [])), (c2, .inr (3, []))] H := hP
  have hD : va_D A [(x0, .inr (0, [.ref c1, .null, .null, .null, .null, .int 0, .int 0, .int 0])), (c1, .inr (2, [])), (c2, .inr (3, []))] := hD
  refine lv_dup hx hb dX0_init_19 rfl ?_
  refine va_csv (W.runI (As := []) (rest := [.ref c2, .ref x0]) ⟨hx, hb, hml, hown, hts⟩ (mi_X4 l D vwCl c2) (cwI 0 hts (lw_meth q55) rfl rfl rfl (hts _ q7) (hts _ q53) (hts _ q54) rfl (by decide +kernel) ⟨Nat.le_of_ble_eq_true rfl, Nat.le_of_ble_eq_true rfl⟩) (pcR_pre (hP.sub [] rfl) (hK.sub [] rfl)) rfl rfl hl.1 rfl (lv_room (Nat.le_of_ble_eq_true rfl)) dX0_init_20 ⟨Nat.le_of_ble_eq_true rfl, Nat.le_of_ble_eq_true rfl⟩) (fun _ => ?_)
  refine va_putF (D := D) (ci := 0) (v := .ref c2) (ty := (.object "LZ4SafeDecompressor")) (C := RX0) (T := TX0) (N := 8) hx hb hts in_X0 tyX0 tyX0_ok nmX0 hown hK hP hD hS 0 rfl rfl 1 (by decide) (hts _ q62) (fun _ h9 => h9) rfl hin rfl (by decide +kernel) rfl rfl (Nat.le_of_ble_eq_true rfl) dX0_init_23 (fun H locs hP hD hS => ?_)
  have hP : va_P D vwCl [(x0, .inr (0, [.ref c1, .ref c2, .null, .null, .null, .int 0, .int 0, .int 0])), (c1, .inr (2, [])), (c2, .inr (3, []))] H := hP
  have hD : va_D A [(x0, .inr (0, [.ref c1, .ref c2, .null, .null, .null, .int 0, .int 0, .int 0])), (c1, .inr (2, [])), (c2, .inr (3, []))] := hD
  refine lv_aload_n hx hb dX0_init_26 rfl (lv_at hl 0 rfl) ?_
  refine lv_sipush (v := nI 16384) hx hb dX0_init_27 (by decide +kernel) ?_
  refine va_newa (atype := .byte) (ty := .byte) (a0 := (16384, .inl (fun _ => 0))) (N' := 16384) hx hb (hts _ q86) rfl hK hP hD hS hA (fun _ => rfl) (nI_pos (by omega)) (nI_clamp (by omega)) (Nat.le_of_ble_eq_true rfl) (Nat.le_of_ble_eq_true rfl) (Nat.le_of_ble_eq_true rfl) dX0_init_30 (fun t1 d1 H hK hP hD hS => ?_)
  have hK : va_K D vwCl [(d1, .byte)] s := hK
  have hP : va_P D vwCl [(x0, .inr (0, [.ref c1, .ref c2, .null, .null, .null, .int 0, .int 0, .int 0])), (c1, .inr (2, [])), (c2, .inr (3, [])), (t1, .inl (d1, 16384, .inl ((fun _ => 0))))] H := hP
  have hD : va_D A [(x0, .inr (0, [.ref c1, .ref c2, .null, .null, .null, .int 0, .int 0, .int 0])), (c1, .inr (2, [])), (c2, .inr (3, [])), (t1, .inl (d1, 16384, .inl ((fun _ => 0))))] := hD
  refine va_putF (D := D) (ci := 0) (v := .ref t1) (ty := (.array .byte)) (C := RX0) (T := TX0) (N := 8) hx hb hts in_X0 tyX0 tyX0_ok nmX0 hown hK hP hD hS 0 rfl rfl 2 (by decide) (hts _ q63) (fun _ h9 => h9) rfl hin rfl (by decide +kernel) rfl rfl (Nat.le_of_ble_eq_true rfl) dX0_init_32 (fun H locs hP hD hS => ?_)
  have hP : va_P D vwCl [(x0, .inr (0, [.ref c1, .ref c2, .ref t1, .null, .null, .int 0, .int 0, .int 0])), (c1, .inr (2, [])), (c2, .inr (3, [])), (t1, .inl (d1, 16384, .inl ((fun _ => 0))))] H := hP
  have hD : va_D A [(x0, .inr (0, [.ref c1, .ref c2, .ref t1, .null, .null, .int 0, .int 0, .int 0])), (c1, .inr (2, [])), (c2, .inr (3, [])), (t1, .inl (d1, 16384, .inl ((fun _ => 0))))] := hD
  refine lv_aload_n hx hb dX0_init_35 rfl (lv_at hl 0 rfl) ?_
  refine lv_sipush (v := nI 16464) hx hb dX0_init_36 (by decide +kernel) ?_
  refine va_newa (atype := .byte) (ty := .byte) (a0 := (16464, .inl (fun _ => 0))) (N' := 16464) hx hb (hts _ q86) rfl hK hP hD hS hA (fun _ => rfl) (nI_pos (by omega)) (nI_clamp (by omega)) (Nat.le_of_ble_eq_true rfl) (Nat.le_of_ble_eq_true rfl) (Nat.le_of_ble_eq_true rfl) dX0_init_39 (fun k1 d2 H hK hP hD hS => ?_)
  have hK : va_K D vwCl [(d1, .byte), (d2, .byte)] s := hK
  have hP : va_P D vwCl [(x0, .inr (0, [.ref c1, .ref c2, .ref t1, .null, .null, .int 0, .int 0, .int 0])), (c1, .inr (2, [])), (c2, .inr (3, [])), (t1, .inl (d1, 16384, .inl ((fun _ => 0)))), (k1, .inl (d2, 16464, .inl ((fun _ => 0))))] H := hP
  have hD : va_D A [(x0, .inr (0, [.ref c1, .ref c2, .ref t1, .null, .null, .int 0, .int 0, .int 0])), (c1, .inr (2, [])), (c2, .inr (3, [])), (t1, .inl (d1, 16384, .inl ((fun _ => 0)))), (k1, .inl (d2, 16464, .inl ((fun _ => 0))))] := hD
  refine va_putF (D := D) (ci := 0) (v := .ref k1) (ty := (.array .byte)) (C := RX0) (T := TX0) (N := 8) hx hb hts in_X0 tyX0 tyX0_ok nmX0 hown hK hP hD hS 0 rfl rfl 3 (by decide) (hts _ q64) (fun _ h9 => h9) rfl hin rfl (by decide +kernel) rfl rfl (Nat.le_of_ble_eq_true rfl) dX0_init_41 (fun H locs hP hD hS => ?_)
  have hP : va_P D vwCl [(x0, .inr (0, [.ref c1, .ref c2, .ref t1, .ref k1, .null, .int 0, .int 0, .int 0])), (c1, .inr (2, [])), (c2, .inr (3, [])), (t1, .inl (d1, 16384, .inl ((fun _ => 0)))), (k1, .inl (d2, 16464, .inl ((fun _ => 0))))] H := hP
  have hD : va_D A [(x0, .inr (0, [.ref c1, .ref c2, .ref t1, .ref k1, .null, .int 0, .int 0, .int 0])), (c1, .inr (2, [])), (c2, .inr (3, [])), (t1, .inl (d1, 16384, .inl ((fun _ => 0)))), (k1, .inl (d2, 16464, .inl ((fun _ => 0))))] := hD
  refine lv_aload_n hx hb dX0_init_44 rfl (lv_at hl 0 rfl) ?_
  refine lv_sipush (v := nI 16384) hx hb dX0_init_45 (by decide +kernel) ?_
  refine va_newa (atype := .byte) (ty := .byte) (a0 := (16384, .inl (fun _ => 0))) (N' := 16384) hx hb (hts _ q86) rfl hK hP hD hS hA (fun _ => rfl) (nI_pos (by omega)) (nI_clamp (by omega)) (Nat.le_of_ble_eq_true rfl) (Nat.le_of_ble_eq_true rfl) (Nat.le_of_ble_eq_true rfl) dX0_init_48 (fun o1 d3 H hK hP hD hS => ?_)
  have hK : va_K D vwCl [(d1, .byte), (d2, .byte), (d3, .byte)] s := hK
  have hP : va_P D vwCl [(x0, .inr (0, [.ref c1, .ref c2, .ref t1, .ref k1, .null, .int 0, .int 0, .int 0])), (c1, .inr (2, [])), (c2, .inr (3, [])), (t1, .inl (d1, 16384, .inl ((fun _ => 0)))), (k1, .inl (d2, 16464, .inl ((fun _ => 0)))), (o1, .inl (d3, 16384, .inl ((fun _ => 0))))] H := hP
  have hD : va_D A [(x0, .inr (0, [.ref c1, .ref c2, .ref t1, .ref k1, .null, .int 0, .int 0, .int 0])), (c1, .inr (2, [])), (c2, .inr (3, [])), (t1, .inl (d1, 16384, .inl ((fun _ => 0)))), (k1, .inl (d2, 16464, .inl ((fun _ => 0)))), (o1, .inl (d3, 16384, .inl ((fun _ => 0))))] := hD
  refine va_putF (D := D) (ci := 0) (v := .ref o1) (ty := (.array .byte)) (C := RX0) (T := TX0) (N := 8) hx hb hts in_X0 tyX0 tyX0_ok nmX0 hown hK hP hD hS 0 rfl rfl 4 (by decide) (hts _ q65) (fun _ h9 => h9) rfl hin rfl (by decide +kernel) rfl rfl (Nat.le_of_ble_eq_true rfl) dX0_init_50 (fun H locs hP hD hS => ?_)
  have hP : va_P D vwCl [(x0, .inr (0, [.ref c1, .ref c2, .ref t1, .ref k1, .ref o1, .int 0, .int 0, .int 0])), (c1, .inr (2, [])), (c2, .inr (3, [])), (t1, .inl (d1, 16384, .inl ((fun _ => 0)))), (k1, .inl (d2, 16464, .inl ((fun _ => 0)))), (o1, .inl (d3, 16384, .inl ((fun _ => 0))))] H := hP
  have hD : va_D A [(x0, .inr (0, [.ref c1, .ref c2, .ref t1, .ref k1, .ref o1, .int 0, .int 0, .int 0])), (c1, .inr (2, [])), (c2, .inr (3, [])), (t1, .inl (d1, 16384, .inl ((fun _ => 0)))), (k1, .inl (d2, 16464, .inl ((fun _ => 0)))), (o1, .inl (d3, 16384, .inl ((fun _ => 0))))] := hD
  refine lv_aload_n hx hb dX0_init_53 rfl (lv_at hl 0 rfl) ?_
  refine lv_iconst (v := -1) hx hb dX0_init_54 (by decide +kernel) ?_
  refine va_put (D := D) (ci := 0) (v := .int ((-1))) (ty := .int) (C := RX0) (T := TX0) (N := 8) hx hb hts in_X0 tyX0 tyX0_ok nmX0 hown hK hP hD hS 0 rfl rfl 6 (by decide) (hts _ q67) (fun _ h9 => h9) rfl (by decide +kernel) rfl rfl (Nat.le_of_ble_eq_true rfl) dX0_init_55 (fun H locs hP hD hS => ?_)
  have hP : va_P D vwCl [(x0, .inr (0, [.ref c1, .ref c2, .ref t1, .ref k1, .ref o1, .int 0, .int ((-1)), .int 0])), (c1, .inr (2, [])), (c2, .inr (3, [])), (t1, .inl (d1, 16384, .inl ((fun _ => 0)))), (k1, .inl (d2, 16464, .inl ((fun _ => 0)))), (o1, .inl (d3, 16384, .inl ((fun _ => 0))))] H := hP
  have hD : va_D A [(x0, .inr (0, [.ref c1, .ref c2, .ref t1, .ref k1, .ref o1, .int 0, .int ((-1)), .int 0])), (c1, .inr (2, [])), (c2, .inr (3, [])), (t1, .inl (d1, 16384, .inl ((fun _ => 0)))), (k1, .inl (d2, 16464, .inl ((fun _ => 0)))), (o1, .inl (d3, 16384, .inl ((fun _ => 0))))] := hD
  exact W.vret hx hb hr (fun t ht hW => ⟨⟨(), rfl, trivial, c1, c2, t1, k1, o1, d1, d2, d3, n_hP ht hP, va_K.moved hW.alike hK, hD⟩, hS.F ht⟩) hS.2.2 dX0_init_58

set_option maxHeartbeats 4000000 in
set_option maxRecDepth 100000 in
/-- BlockPackerModel(): three arrays of noughts -/
theorem mi_X5 (l : Launch) (D : va_G) (x0 : Nat) (sz : Nat) : Met l yX5_init (ws_ yX5_init cX5_init 1 (none)) ({ frames := 1, cells := 3, slots := 49152, locals := 100 }) (pcW [.ref x0] D vwCl [(x0, .inr (1, [.null, .null, .null, .int 0, .int 0, .int 0]))] [] sz) (va_Qv (fun (u : Unit) => True) (fun (u : Unit) t => ∃ (t1 k1 o1 : Nat) (d1 d2 d3 : ClassId), va_P D vwCl [(x0, .inr (1, [.ref t1, .ref k1, .ref o1, .int (nI 0), .int ((-1)), .int (nI 0)])), (t1, .inl (d1, 16384, .inl ((fun _ => 0)))), (k1, .inl (d2, 16384, .inl ((fun _ => 0)))), (o1, .inl (d3, 16384, .inl ((fun _ => 0))))] t.heap ∧ va_K D vwCl [(d1, .byte), (d2, .byte), (d3, .byte)] t ∧ va_D (va_A [(x0, .inr (1, [.null, .null, .null, .int 0, .int 0, .int 0]))] sz) [(x0, .inr (1, [.ref t1, .ref k1, .ref o1, .int (nI 0), .int ((-1)), .int (nI 0)])), (t1, .inl (d1, 16384, .inl ((fun _ => 0)))), (k1, .inl (d2, 16384, .inl ((fun _ => 0)))), (o1, .inl (d3, 16384, .inl ((fun _ => 0))))]) (va_A [(x0, .inr (1, [.null, .null, .null, .int 0, .int 0, .int 0]))] sz)) 3 49152 (va_A [(x0, .inr (1, [.null, .null, .null, .int 0, .int 0, .int 0]))] sz) := by
  refine n_metW (Qc := fun A => va_Qv (fun (u : Unit) => True) (fun (u : Unit) t => ∃ (t1 k1 o1 : Nat) (d1 d2 d3 : ClassId), va_P D vwCl [(x0, .inr (1, [.ref t1, .ref k1, .ref o1, .int (nI 0), .int ((-1)), .int (nI 0)])), (t1, .inl (d1, 16384, .inl ((fun _ => 0)))), (k1, .inl (d2, 16384, .inl ((fun _ => 0)))), (o1, .inl (d3, 16384, .inl ((fun _ => 0))))] t.heap ∧ va_K D vwCl [(d1, .byte), (d2, .byte), (d3, .byte)] t ∧ va_D A [(x0, .inr (1, [.ref t1, .ref k1, .ref o1, .int (nI 0), .int ((-1)), .int (nI 0)])), (t1, .inl (d1, 16384, .inl ((fun _ => 0)))), (k1, .inl (d2, 16384, .inl ((fun _ => 0)))), (o1, .inl (d3, 16384, .inl ((fun _ => 0))))]) A) (by decide) (Nat.le_of_ble_eq_true rfl) ?_
  intro p e s m below meth c hx hb hr hlocks hml hown hin hts hP hK A hsz hD hA hS ls hl
  have hown : s.vm.findClass "BlockPackerModel" = some m.cls := hown
  have hl : lv_has ls 1 [(0, .ref x0)] := hl
  refine lv_aload_n hx hb dX5_init_0 rfl (lv_at hl 0 rfl) ?_
  refine W.objInit hx hb hown (hts _ q625) (hts _ q39) (hts _ q40) rfl (by rw [hml]; exact hl.1) rfl dX5_init_1 (Nat.le_of_ble_eq_true rfl) (Nat.le_of_ble_eq_true rfl) ?_
  refine W.eq (g2 := F0 m 4 ls []) rfl ?_
  refine lv_aload_n hx hb dX5_init_4 rfl (lv_at hl 0 rfl) ?_
  refine lv_sipush (v := nI 16384) hx hb dX5_init_5 (by decide +kernel) ?_
  refine va_newa (atype := .byte) (ty := .byte) (a0 := (16384, .inl (fun _ => 0))) (N' := 16384) hx hb (hts _ q86) rfl hK hP hD hS hA (fun _ => rfl) (nI_pos (by omega)) (nI_clamp (by omega)) (Nat.le_of_ble_eq_true rfl) (Nat.le_of_ble_eq_true rfl) (Nat.le_of_ble_eq_true rfl) dX5_init_8 (fun t1 d1 H hK hP hD hS => ?_)
  have hK : va_K D vwCl [(d1, .byte)] s := hK
  have hP : va_P D vwCl [(x0, .inr (1, [.null, .null, .null, .int 0, .int 0, .int 0])), (t1, .inl (d1, 16384, .inl ((fun _ => 0))))] H := hP
  have hD : va_D A [(x0, .inr (1, [.null, .null, .null, .int 0, .int 0, .int 0])), (t1, .inl (d1, 16384, .inl ((fun _ => 0))))] := hD
  refine va_putF (D := D) (ci := 1) (v := .ref t1) (ty := (.array .byte)) (C := RX5) (T := TX5) (N := 6) hx hb hts in_X5 tyX5 tyX5_ok nmX5 hown hK hP hD hS 0 rfl rfl 0 (by decide) (hts _ q626) (fun _ h9 => h9) rfl hin rfl (by decide +kernel) rfl rfl (Nat.le_of_ble_eq_true rfl) dX5_init_10 (fun H locs hP hD hS => ?_)
  have hP : va_P D vwCl [(x0, .inr (1, [.ref t1, .null, .null, .int 0, .int 0, .int 0])), (t1, .inl (d1, 16384, .inl ((fun _ => 0))))] H := hP
  have hD : va_D A [(x0, .inr (1, [.ref t1, .null, .null, .int 0, .int 0, .int 0])), (t1, .inl (d1, 16384, .inl ((fun _ => 0))))] := hD
  refine lv_aload_n hx hb dX5_init_13 rfl (lv_at hl 0 rfl) ?_
  refine lv_sipush (v := nI 16384) hx hb dX5_init_14 (by decide +kernel) ?_
  refine va_newa (atype := .byte) (ty := .byte) (a0 := (16384, .inl (fun _ => 0))) (N' := 16384) hx hb (hts _ q86) rfl hK hP hD hS hA (fun _ => rfl) (nI_pos (by omega)) (nI_clamp (by omega)) (Nat.le_of_ble_eq_true rfl) (Nat.le_of_ble_eq_true rfl) (Nat.le_of_ble_eq_true rfl) dX5_init_17 (fun k1 d2 H hK hP hD hS => ?_)
  have hK : va_K D vwCl [(d1, .byte), (d2, .byte)] s := hK
  have hP : va_P D vwCl [(x0, .inr (1, [.ref t1, .null, .null, .int 0, .int 0, .int 0])), (t1, .inl (d1, 16384, .inl ((fun _ => 0)))), (k1, .inl (d2, 16384, .inl ((fun _ => 0))))] H := hP
  have hD : va_D A [(x0, .inr (1, [.ref t1, .null, .null, .int 0, .int 0, .int 0])), (t1, .inl (d1, 16384, .inl ((fun _ => 0)))), (k1, .inl (d2, 16384, .inl ((fun _ => 0))))] := hD
  refine va_putF (D := D) (ci := 1) (v := .ref k1) (ty := (.array .byte)) (C := RX5) (T := TX5) (N := 6) hx hb hts in_X5 tyX5 tyX5_ok nmX5 hown hK hP hD hS 0 rfl rfl 1 (by decide) (hts _ q627) (fun _ h9 => h9) rfl hin rfl (by decide +kernel) rfl rfl (Nat.le_of_ble_eq_true rfl) dX5_init_19 (fun H locs hP hD hS => ?_)
  have hP : va_P D vwCl [(x0, .inr (1, [.ref t1, .ref k1, .null, .int 0, .int 0, .int 0])), (t1, .inl (d1, 16384, .inl ((fun _ => 0)))), (k1, .inl (d2, 16384, .inl ((fun _ => 0))))] H := hP
  have hD : va_D A [(x0, .inr (1, [.ref t1, .ref k1, .null, .int 0, .int 0, .int 0])), (t1, .inl (d1, 16384, .inl ((fun _ => 0)))), (k1, .inl (d2, 16384, .inl ((fun _ => 0))))] := hD
  refine lv_aload_n hx hb dX5_init_22 rfl (lv_at hl 0 rfl) ?_
  refine lv_sipush (v := nI 16384) hx hb dX5_init_23 (by decide +kernel) ?_
  refine va_newa (atype := .byte) (ty := .byte) (a0 := (16384, .inl (fun _ => 0))) (N' := 16384) hx hb (hts _ q86) rfl hK hP hD hS hA (fun _ => rfl) (nI_pos (by omega)) (nI_clamp (by omega)) (Nat.le_of_ble_eq_true rfl) (Nat.le_of_ble_eq_true rfl) (Nat.le_of_ble_eq_true rfl) dX5_init_26 (fun o1 d3 H hK hP hD hS => ?_)
  have hK : va_K D vwCl [(d1, .byte), (d2, .byte), (d3, .byte)] s := hK
  have hP : va_P D vwCl [(x0, .inr (1, [.ref t1, .ref k1, .null, .int 0, .int 0, .int 0])), (t1, .inl (d1, 16384, .inl ((fun _ => 0)))), (k1, .inl (d2, 16384, .inl ((fun _ => 0)))), (o1, .inl (d3, 16384, .inl ((fun _ => 0))))] H := hP
  have hD : va_D A [(x0, .inr (1, [.ref t1, .ref k1, .null, .int 0, .int 0, .int 0])), (t1, .inl (d1, 16384, .inl ((fun _ => 0)))), (k1, .inl (d2, 16384, .inl ((fun _ => 0)))), (o1, .inl (d3, 16384, .inl ((fun _ => 0))))] := hD
  refine va_putF (D := D) (ci := 1) (v := .ref o1) (ty := (.array .byte)) (C := RX5) (T := TX5) (N := 6) hx hb hts in_X5 tyX5 tyX5_ok nmX5 hown hK hP hD hS 0 rfl rfl 2 (by decide) (hts _ q628) (fun _ h9 => h9) rfl hin rfl (by decide +kernel) rfl rfl (Nat.le_of_ble_eq_true rfl) dX5_init_28 (fun H locs hP hD hS => ?_)
  have hP : va_P D vwCl [(x0, .inr (1, [.ref t1, .ref k1, .ref o1, .int 0, .int 0, .int 0])), (t1, .inl (d1, 16384, .inl ((fun _ => 0)))), (k1, .inl (d2, 16384, .inl ((fun _ => 0)))), (o1, .inl (d3, 16384, .inl ((fun _ => 0))))] H := hP
  have hD : va_D A [(x0, .inr (1, [.ref t1, .ref k1, .ref o1, .int 0, .int 0, .int 0])), (t1, .inl (d1, 16384, .inl ((fun _ => 0)))), (k1, .inl (d2, 16384, .inl ((fun _ => 0)))), (o1, .inl (d3, 16384, .inl ((fun _ => 0))))] := hD
  refine lv_aload_n hx hb dX5_init_31 rfl (lv_at hl 0 rfl) ?_
  refine lv_iconst (v := -1) hx hb dX5_init_32 (by decide +kernel) ?_
  refine va_put (D := D) (ci := 1) (v := .int ((-1))) (ty := .int) (C := RX5) (T := TX5) (N := 6) hx hb hts in_X5 tyX5 tyX5_ok nmX5 hown hK hP hD hS 0 rfl rfl 4 (by decide) (hts _ q630) (fun _ h9 => h9) rfl (by decide +kernel) rfl rfl (Nat.le_of_ble_eq_true rfl) dX5_init_33 (fun H locs hP hD hS => ?_)
  have hP : va_P D vwCl [(x0, .inr (1, [.ref t1, .ref k1, .ref o1, .int 0, .int ((-1)), .int 0])), (t1, .inl (d1, 16384, .inl ((fun _ => 0)))), (k1, .inl (d2, 16384, .inl ((fun _ => 0)))), (o1, .inl (d3, 16384, .inl ((fun _ => 0))))] H := hP
  have hD : va_D A [(x0, .inr (1, [.ref t1, .ref k1, .ref o1, .int 0, .int ((-1)), .int 0])), (t1, .inl (d1, 16384, .inl ((fun _ => 0)))), (k1, .inl (d2, 16384, .inl ((fun _ => 0)))), (o1, .inl (d3, 16384, .inl ((fun _ => 0))))] := hD
  exact W.vret hx hb hr (fun t ht hW => ⟨⟨(), rfl, trivial, t1, k1, o1, d1, d2, d3, n_hP ht hP, va_K.moved hW.alike hK, hD⟩, hS.F ht⟩) hS.2.2 dX5_init_36
end
section
/-! THE CLAIM OUT OF ONE WALK OF THE LAW'S BODY. Your part is whole_start (and what it stands on); all else here is the same for every law, but numbers. -/
def R_law : String := "BlockPackerLaw"
def lw_P (b : Addr) (xs : List Int32) (args : Array Value) (s : State) : Prop := args = #[.ref b] ∧ s.IntsAt b xs ∧ xs.length ≤ 384 ∧ (Jvm.Cond.and given_1 narrow_1).before args s = true
def lw_Q (_ : Array Value) (s : State) (o : Outcome) (t : State) : Prop := o = .returned (some (.int 1)) ∧ Framed s o t [] 600384 7284202
def lw_Z (below : List Frame) (a : Array Value) (s : State) : State → Prop := fun t => ∃ o, t.status = .running ∧ Ended t below o ∧ lw_Q a s o t
/-- the law's own end, with 1 on the stack, nothing written that was there before, its room as the claim has it -/
theorem lw_ret {p : Program} {l : Launch} {e : Env} {s : State} {m : MethodId} {below : List Frame} {meth : Method} {c : Code} {b : Nat} (hx : p.tables.exec = Jvm.exec) (hb : c.code = code) (hr : meth.sig.returnType = ret) (hlocks : meth.locks = false) {pc : Nat} {H : Heap} {ls : Array Slot} (hdg : decode code pc = .ok (.ireturn, 1)) : W p l e room_1 s m #[Value.ref b] below meth c H [] 600384 7284202 (lw_Z below #[Value.ref b] s) (F0 m pc ls [.int 1]) := by
  intro T hT X
  obtain ⟨fs, hret, hrun, hended, hW, hframe⟩ := X.leave (v := some (.int 1)) (hlocks := hlocks) (fun h => by rw [hr] at h; cases h)
  have hmeth' : T.vm.method? m = some meth := X.method'
  refine ⟨T.setFrames fs, ?_, .returned (some (.int 1)), hrun, hended, rfl, ⟨_, rfl⟩, hW, hframe⟩
  jvm_step X.here [X.here.top, hx, hb, hdg, hmeth', hr, ret, narrow_b1]
  (try refine ⟨rfl, ?_⟩); (try refine ⟨rfl, ?_⟩)
  first | (intro acts; rw [hret _ acts rfl rfl rfl]) | rw [hret _ _ rfl rfl rfl]
  exact Steps.refl _
/-- what holds at the law's entry: the machine, the code, the tables' words (any of lw_tbl by 'hts w (by decide +kernel)'), the script of L ints xs at the cell b, what the Statement gives of the start (any of its parts by flat_of_before) -/
def lw_At (p : Program) (s : State) (m : MethodId) (meth : Method) (c : Code) (b L : Nat) (xs : Nat → Int32) : Prop :=
  p.tables.exec = Jvm.exec ∧ c.code = code ∧ meth.sig.returnType = ret ∧ c.maxLocals = 4 ∧ s.vm.findClass R_law = some m.cls ∧ (∀ w ∈ lw_tbl, w.before #[Value.ref b] s = true) ∧ va_X b L xs s s.heap ∧ b < s.heap.size ∧ meth.locks = false ∧ (Jvm.Cond.and given_1 narrow_1).before #[Value.ref b] s = true

/-! the law's loop -/
/-- what the packed bytes and the kept ones have to do with each other -/
def lnk (lx lm : Int32) (pk kp : Nat → Int32) (n : Nat) : Prop := (lx = -1 ∧ lm = -1) ∨ ∃ e9 : Nat, lx = nI e9 ∧ e9 ≤ 16464 ∧ zBlock kp pk n e9 ∧ n ≤ 16384 ∧ lm = nI n
theorem lnk.x {lx lm : Int32} {pk kp : Nat → Int32} {n : Nat} (h : lnk lx lm pk kp n) : lx = -1 ∨ ∃ e9 : Nat, lx = nI e9 ∧ e9 ≤ 16464 ∧ zBlock kp pk n e9 ∧ n ≤ 16384 := by
  rcases h with ⟨h, -⟩ | ⟨e9, h1, h2, h3, h4, -⟩
  · exact Or.inl h
  · exact Or.inr ⟨e9, h1, h2, h3, h4⟩
theorem lnk.m {lx lm : Int32} {pk kp : Nat → Int32} {n : Nat} (h : lnk lx lm pk kp n) : lm = -1 ∨ lm = nI n ∧ n ≤ 16384 := by
  rcases h with ⟨-, h⟩ | ⟨e9, h1, h2, h3, h4, h5⟩
  · exact Or.inl h
  · exact Or.inr ⟨h5, h4⟩
theorem put_eq {g gm : Nat → Int32} {z1 : Nat} {v0 v1 v2 v3 : Int32} {r r2 : Int32} {u u2 : (Nat → Int32) × Nat} (hz : z1 ≤ 16384) (he : ∀ j : Nat, j < z1 → g j = gm j) (hg : aB g) (hm : aB gm) (h1 : (16384 < z1 + 16 → r = 0 ∧ u = (g, z1)) ∧ (z1 + 16 ≤ 16384 → r = 1 ∧ u.2 = z1 + 16 ∧ (∀ j : Nat, j < z1 → u.1 j = g j) ∧ (∀ k : Nat, k < 16 → u.1 (z1 + k) = pb v0 v1 v2 v3 k) ∧ aB u.1)) (h2 : (16384 < z1 + 16 → r2 = 0 ∧ u2 = (gm, z1)) ∧ (z1 + 16 ≤ 16384 → r2 = 1 ∧ u2.2 = z1 + 16 ∧ (∀ j : Nat, j < z1 → u2.1 j = gm j) ∧ (∀ k : Nat, k < 16 → u2.1 (z1 + k) = pb v0 v1 v2 v3 k) ∧ aB u2.1)) : r = r2 ∧ u.2 = u2.2 ∧ u.2 ≤ 16384 ∧ (∀ j : Nat, j < u.2 → u.1 j = u2.1 j) ∧ aB u.1 ∧ aB u2.1 := by
  rcases Nat.lt_or_ge 16384 (z1 + 16) with h | h
  · obtain ⟨rfl, rfl⟩ := h1.1 h
    obtain ⟨rfl, rfl⟩ := h2.1 h
    exact ⟨rfl, rfl, hz, he, hg, hm⟩
  · obtain ⟨rfl, a2, a3, a4, a5⟩ := h1.2 h
    obtain ⟨rfl, b2, b3, b4, b5⟩ := h2.2 h
    refine ⟨rfl, a2.trans b2.symm, by omega, fun j hj => ?_, a5, b5⟩
    rcases Nat.lt_or_ge j z1 with h9 | h9
    · rw [a3 j h9, b3 j h9]
      exact he j h9
    · have e1 := a4 (j - z1) (by omega)
      have e2 := b4 (j - z1) (by omega)
      rw [show z1 + (j - z1) = j by omega] at e1 e2
      rw [e1, e2]
theorem rep_eq {g gm : Nat → Int32} {z1 : Nat} {v w : Int32} {r r2 : Int32} {u u2 : (Nat → Int32) × Nat} (hz : z1 ≤ 16384) (he : ∀ j : Nat, j < z1 → g j = gm j) (hg : aB g) (hm : aB gm) (h1 : (z1 = 0 → r = -1 ∧ u = (g, z1)) ∧ (¬ z1 = 0 → r = nI (cap z1 (um w % 1025)) ∧ u.2 = z1 + cap z1 (um w % 1025) ∧ (∀ j : Nat, j < z1 → u.1 j = g j) ∧ (∀ i : Nat, i < cap z1 (um w % 1025) → u.1 (z1 + i) = u.1 (um v % z1 + i)) ∧ aB u.1)) (h2 : (z1 = 0 → r2 = -1 ∧ u2 = (gm, z1)) ∧ (¬ z1 = 0 → r2 = nI (cap z1 (um w % 1025)) ∧ u2.2 = z1 + cap z1 (um w % 1025) ∧ (∀ j : Nat, j < z1 → u2.1 j = gm j) ∧ (∀ i : Nat, i < cap z1 (um w % 1025) → u2.1 (z1 + i) = u2.1 (um v % z1 + i)) ∧ aB u2.1)) : r = r2 ∧ u.2 = u2.2 ∧ u.2 ≤ 16384 ∧ (∀ j : Nat, j < u.2 → u.1 j = u2.1 j) ∧ aB u.1 ∧ aB u2.1 := by
  have hcap := cap_le (n := um w % 1025) hz
  by_cases h : z1 = 0
  · obtain ⟨rfl, rfl⟩ := h1.1 h
    obtain ⟨rfl, rfl⟩ := h2.1 h
    exact ⟨rfl, rfl, hz, he, hg, hm⟩
  · obtain ⟨rfl, a2, a3, a4, a5⟩ := h1.2 h
    obtain ⟨rfl, b2, b3, b4, b5⟩ := h2.2 h
    have hf : um v % z1 < z1 := Nat.mod_lt _ (by omega)
    refine ⟨rfl, a2.trans b2.symm, by omega, fun j => ?_, a5, b5⟩
    induction j using Nat.strongRecOn with
    | _ j ih =>
      intro hj
      rcases Nat.lt_or_ge j z1 with h9 | h9
      · rw [a3 j h9, b3 j h9]
        exact he j h9
      · have e1 := a4 (j - z1) (by omega)
        have e2 := b4 (j - z1) (by omega)
        rw [show z1 + (j - z1) = j by omega] at e1 e2
        rw [e1, e2]
        exact ih _ (by omega) (by omega)
theorem fill_eq {g gm : Nat → Int32} {z1 : Nat} {v w : Int32} {r r2 : Int32} {u u2 : (Nat → Int32) × Nat} (hz : z1 ≤ 16384) (he : ∀ j : Nat, j < z1 → g j = gm j) (hg : aB g) (hm : aB gm) (h1 : r = nI (cap z1 (um w % 1025)) ∧ u.2 = z1 + cap z1 (um w % 1025) ∧ (∀ j : Nat, j < z1 → u.1 j = g j) ∧ (∀ i : Nat, i < cap z1 (um w % 1025) → u.1 (z1 + i) = v.toInt8.toInt32) ∧ aB u.1) (h2 : r2 = nI (cap z1 (um w % 1025)) ∧ u2.2 = z1 + cap z1 (um w % 1025) ∧ (∀ j : Nat, j < z1 → u2.1 j = gm j) ∧ (∀ i : Nat, i < cap z1 (um w % 1025) → u2.1 (z1 + i) = v.toInt8.toInt32) ∧ aB u2.1) : r = r2 ∧ u.2 = u2.2 ∧ u.2 ≤ 16384 ∧ (∀ j : Nat, j < u.2 → u.1 j = u2.1 j) ∧ aB u.1 ∧ aB u2.1 := by
  have hcap := cap_le (n := um w % 1025) hz
  obtain ⟨rfl, a2, a3, a4, a5⟩ := h1
  obtain ⟨rfl, b2, b3, b4, b5⟩ := h2
  refine ⟨rfl, a2.trans b2.symm, by omega, fun j hj => ?_, a5, b5⟩
  rcases Nat.lt_or_ge j z1 with h9 | h9
  · rw [a3 j h9, b3 j h9]
    exact he j h9
  · have e1 := a4 (j - z1) (by omega)
    have e2 := b4 (j - z1) (by omega)
    rw [show z1 + (j - z1) = j by omega] at e1 e2
    rw [e1, e2]
theorem open_eq {lx lm : Int32} {pk kp op sh : Nat → Int32} {n bk : Nat} {r r2 : Int32} {u u2 : (Nat → Int32) × Nat} (hb : bk ≤ 16384) (he : ∀ j : Nat, j < bk → op j = sh j) (hl : lnk lx lm pk kp n) (h1 : ((lx = -1 ∧ r = -1 ∧ u = (op, bk)) ∨ (¬ lx = -1 ∧ r = nI n ∧ u.2 = n ∧ ∀ j : Nat, j < n → u.1 j = kp j)) ∧ aB u.1) (h2 : ((lm = -1 ∧ r2 = -1 ∧ u2 = (sh, bk)) ∨ (¬ lm = -1 ∧ r2 = nI n ∧ u2.2 = n ∧ ∀ j : Nat, j < n → u2.1 j = kp j)) ∧ aB u2.1) : r = r2 ∧ u.2 = u2.2 ∧ u.2 ≤ 16384 ∧ (∀ j : Nat, j < u.2 → u.1 j = u2.1 j) ∧ aB u.1 ∧ aB u2.1 := by
  obtain ⟨h1, a5⟩ := h1
  obtain ⟨h2, b5⟩ := h2
  rcases hl with ⟨hx, hm⟩ | ⟨e9, hx, he9, -, hn, hm⟩
  · rcases h1 with ⟨-, rfl, rfl⟩ | ⟨h9, -⟩
    · rcases h2 with ⟨-, rfl, rfl⟩ | ⟨h9, -⟩
      · exact ⟨rfl, rfl, hb, he, a5, b5⟩
      · exact absurd hm h9
    · exact absurd hx h9
  · rcases h1 with ⟨h9, -⟩ | ⟨-, rfl, a2, a3⟩
    · exact absurd (hx.symm.trans h9) (nI_ne_m1 (by omega))
    · rcases h2 with ⟨h9, -⟩ | ⟨-, rfl, b2, b3⟩
      · exact absurd (hm.symm.trans h9) (nI_ne_m1 (by omega))
      · exact ⟨rfl, a2.trans b2.symm, by omega, fun j hj => (a3 j (by omega)).trans (b3 j (by omega)).symm, a5, b5⟩
section NS
variable {p : Program} {l : Launch} {e : Env} {R : Room} {s : State} {m : MethodId} {args : Array Value} {below : List Frame} {meth : Method} {c : Code} {H : Heap} {locs : List Loc} {cells slots : Nat} {Q : State → Prop} {cc : ByteArray} {pc : Nat} {ls : Array Slot} {rest : List Value} {A : Nat → Prop} {H0 : Heap}
theorem n_sld (hx : p.tables.exec = Jvm.exec) (hb : c.code = cc) {b L : Nat} {xs : Nat → Int32} (hX : va_X b L xs s H0) (hbl : b < H0.size) (hbA : ¬ A b) (hS : va_S A H0 H locs) {i : Nat} (hi : i < L) (hL : L < 2147483648) (hdg : decode cc pc = .ok (.iaload, 1)) (kk : W p l e R s m args below meth c H locs cells slots Q (F0 m (pc + 1) ls (.int (xs i) :: rest))) : W p l e R s m args below meth c H locs cells slots Q (F0 m pc ls (.int (nI i) :: .ref b :: rest)) := va_sld hx hb hX hbl hbA hS (vp_in_nI hi hL) hdg (by rw [nI_clamp (Nat.lt_trans hi hL)]; exact kk)
end NS

set_option maxHeartbeats 4000000 in
set_option maxRecDepth 100000 in
/-- the loop of the law: both sides say the same at every turn -/
theorem law_loop {p : Program} {e : Env} {s : State} {m : MethodId} {below : List Frame} {meth : Method} {c : Code} (l : Launch) {b L : Nat} {xs : Nat → Int32} (hL : L ≤ 384) (C0 : lw_At p s m meth c b L xs) (D : va_G) (x0 c1 c2 t1 k1 o1 y0 u1 v1 w1 : Nat) (d1 d2 d3 d4 d5 d6 : ClassId) (hK : va_K D vwCl [(d1, .byte), (d2, .byte), (d3, .byte), (d4, .byte), (d5, .byte), (d6, .byte)] s) (hZ : skZ (fun q => s.heap.size ≤ q) s s.heap) {H : Heap} {locs : List Loc} {ls : Array Slot} (hP : va_P D vwCl [(x0, .inr (0, [.ref c1, .ref c2, .ref t1, .ref k1, .ref o1, .int (nI 0), .int ((-1)), .int (nI 0)])), (c1, .inr (2, [])), (c2, .inr (3, [])), (t1, .inl (d1, 16384, .inl ((fun _ => 0)))), (k1, .inl (d2, 16464, .inl ((fun _ => 0)))), (o1, .inl (d3, 16384, .inl ((fun _ => 0)))), (y0, .inr (1, [.ref u1, .ref v1, .ref w1, .int (nI 0), .int ((-1)), .int (nI 0)])), (u1, .inl (d4, 16384, .inl ((fun _ => 0)))), (v1, .inl (d5, 16384, .inl ((fun _ => 0)))), (w1, .inl (d6, 16384, .inl ((fun _ => 0))))] H) (hD : va_D (fun q => s.heap.size ≤ q) [(x0, .inr (0, [.ref c1, .ref c2, .ref t1, .ref k1, .ref o1, .int (nI 0), .int ((-1)), .int (nI 0)])), (c1, .inr (2, [])), (c2, .inr (3, [])), (t1, .inl (d1, 16384, .inl ((fun _ => 0)))), (k1, .inl (d2, 16464, .inl ((fun _ => 0)))), (o1, .inl (d3, 16384, .inl ((fun _ => 0)))), (y0, .inr (1, [.ref u1, .ref v1, .ref w1, .int (nI 0), .int ((-1)), .int (nI 0)])), (u1, .inl (d4, 16384, .inl ((fun _ => 0)))), (v1, .inl (d5, 16384, .inl ((fun _ => 0)))), (w1, .inl (d6, 16384, .inl ((fun _ => 0))))]) (hS : va_S (fun q => s.heap.size ≤ q) s.heap H locs) (hl : lv_has ls 4 [(0, .ref b), (1, .ref x0), (2, .ref y0), (3, .int (nI 0))]) : W p l e room_1 s m #[Value.ref b] below meth c H locs 10 98398 (lw_Z below #[Value.ref b] s) (F0 m 18 ls []) := by
  obtain ⟨hx, hb, hr, hml, hown, hts0, hX, hbl, hlocks, hgv⟩ := id C0
  have hown : s.vm.findClass "BlockPackerLaw" = some m.cls := hown
  have hts : ∀ w ∈ lw_all, w.before #[Value.ref b] s = true := fun w h => hts0 w (lw_all_tbl h)
  obtain ⟨A, hAe⟩ : ∃ A : Nat → Prop, A = fun q => s.heap.size ≤ q := ⟨_, rfl⟩
  rw [← hAe] at hD hS hZ
  have hA : ∀ q : Nat, s.heap.size ≤ q → A q := fun q h => by rw [hAe]; exact h
  have hA2 : ∀ q : Nat, A q → s.heap.size ≤ q := fun q h => by rw [hAe] at h; exact h
  have hbA : ¬ A b := fun h => absurd (hA2 b h) (Nat.not_le.mpr hbl)
  refine n_loopAt 18 (fun n9 H locs ls cells slots => ∃ i : Nat, ∃ jj : Nat, ∃ z : Nat, ∃ bk : Nat, ∃ n : Nat, ∃ lx : Int32, ∃ lm : Int32, ∃ g : Nat → Int32, ∃ pk : Nat → Int32, ∃ op : Nat → Int32, ∃ gm : Nat → Int32, ∃ kp : Nat → Int32, ∃ sh : Nat → Int32, (n9 = L - i) ∧ (i = 6 * jj) ∧ (i ≤ L) ∧ (z ≤ 16384) ∧ (bk ≤ 16384) ∧ (∀ j : Nat, j < z → g j = gm j) ∧ (lnk lx lm pk kp n) ∧ (∀ j : Nat, j < bk → op j = sh j) ∧ (aB g) ∧ (aB gm) ∧ (aB pk) ∧ (aB kp) ∧ (aB op) ∧ (aB sh) ∧ lv_has ls 4 [(0, .ref b), (1, .ref x0), (2, .ref y0), (3, .int (nI i))] ∧ va_P D vwCl [(x0, .inr (0, [.ref c1, .ref c2, .ref t1, .ref k1, .ref o1, .int (nI z), .int lx, .int (nI bk)])), (c1, .inr (2, [])), (c2, .inr (3, [])), (t1, .inl (d1, 16384, .inl g)), (k1, .inl (d2, 16464, .inl pk)), (o1, .inl (d3, 16384, .inl op)), (y0, .inr (1, [.ref u1, .ref v1, .ref w1, .int (nI z), .int lm, .int (nI bk)])), (u1, .inl (d4, 16384, .inl gm)), (v1, .inl (d5, 16384, .inl kp)), (w1, .inl (d6, 16384, .inl sh))] H ∧ va_D A [(x0, .inr (0, [.ref c1, .ref c2, .ref t1, .ref k1, .ref o1, .int (nI z), .int lx, .int (nI bk)])), (c1, .inr (2, [])), (c2, .inr (3, [])), (t1, .inl (d1, 16384, .inl g)), (k1, .inl (d2, 16464, .inl pk)), (o1, .inl (d3, 16384, .inl op)), (y0, .inr (1, [.ref u1, .ref v1, .ref w1, .int (nI z), .int lm, .int (nI bk)])), (u1, .inl (d4, 16384, .inl gm)), (v1, .inl (d5, 16384, .inl kp)), (w1, .inl (d6, 16384, .inl sh))] ∧ va_S A s.heap H locs ∧ cells = 10 + jj ∧ slots = 98398 + 8192 * jj) L ⟨0, 0, 0, 0, 0, -1, -1, _, _, _, _, _, _, rfl, rfl, by omega, by omega, by omega, fun j hj => absurd hj (by omega), Or.inl ⟨rfl, rfl⟩, fun j hj => absurd hj (by omega), aB_0, aB_0, aB_0, aB_0, aB_0, aB_0, hl, hP, hD, hS, rfl, rfl⟩ ?_
  clear hl hP hD hS
  intro n0 ih H locs ls cells slots hI
  obtain ⟨i, jj, z, bk, n, lx, lm, g, pk, op, gm, kp, sh, hn0, hij, hiL, hz, hbk, heq, hln, hos, ag, agm, apk, akp, aop, ash, hl, hP, hD, hS, rfl, rfl⟩ := hI
  refine lv_iload_n hx hb dL_law_18 rfl (lv_at hl 3 rfl) ?_
  refine lv_aload_n hx hb dL_law_19 rfl (lv_at hl 0 rfl) ?_
  refine va_slen hx hb hX hbl hbA hS dL_law_20 ?_
  refine n_topI (y := nI L) rfl ?_
  refine lv_bipush (v := nI 6) hx hb dL_law_21 (by decide +kernel) ?_
  rcases Nat.lt_or_ge L 6 with hL6 | hL6
  · refine lv_isub hx hb dL_law_23 ?_
    refine lv_icmp_gt (tgt := 288) hx hb dL_law_24 (by decide) (fun c__1 => ?_) (fun c__1 => absurd (Int32.lt_of_lt_of_le (pk_sneg (by omega) hL6) (nI_pos' (by omega))) c__1)
    refine lv_iconst (v := nI 1) hx hb dL_law_288 (by decide +kernel) ?_
    refine va_forget (fun q hq => hA2 _ (hS.2.2 q hq)) ?_
    refine W.widen (k := 600384) (n := 7284202) (by omega) (by omega) ?_
    exact lw_ret hx hb hr hlocks dL_law_289
  · refine n_isub hx hb dL_law_23 (by omega) ?_
    refine n_icmp_gt (tgt := 288) hx hb dL_law_24 (by decide) (by omega) (by omega) (fun c__2 => ?_) (fun c__2 => ?_)
    · refine lv_iconst (v := nI 1) hx hb dL_law_288 (by decide +kernel) ?_
      refine va_forget (fun q hq => hA2 _ (hS.2.2 q hq)) ?_
      refine W.widen (k := 600384) (n := 7284202) (by omega) (by omega) ?_
      exact lw_ret hx hb hr hlocks dL_law_289
    · refine lv_aload_n hx hb dL_law_27 rfl (lv_at hl 0 rfl) ?_
      refine lv_iload_n hx hb dL_law_28 rfl (lv_at hl 3 rfl) ?_
      refine n_sld hx hb hX hbl hbA hS (by omega) (by omega) dL_law_29 ?_
      refine lv_bipush (v := nI 15) hx hb dL_law_30 (by decide +kernel) ?_
      obtain ⟨kk, hk16, hkk⟩ := pk_andE (xs i) (m := nI 15) 4 (by decide +kernel)
      refine lv_iand hx hb dL_law_32 ?_
      refine n_topI (y := nI kk) hkk ?_
      have hkI : (nI kk).toInt = (kk : Int) := nI_toInt (by omega)
      rcases (show kk = 0 ∨ kk = 1 ∨ kk = 2 ∨ kk = 3 ∨ kk = 4 ∨ kk = 5 ∨ kk = 6 ∨ kk = 7 ∨ 8 ≤ kk by omega) with rfl | rfl | rfl | rfl | rfl | rfl | rfl | rfl | hk8
      · refine lv_tableIn (tgt := 80) hx hb dL_law_33 (by decide +kernel) (by decide +kernel) (off := 47) (by decide +kernel) (by decide) ?_
        refine lv_aload_n hx hb dL_law_80 rfl (lv_at hl 1 rfl) ?_
        refine lv_aload_n hx hb dL_law_81 rfl (lv_at hl 0 rfl) ?_
        refine lv_iload_n hx hb dL_law_82 rfl (lv_at hl 3 rfl) ?_
        refine lv_iconst (v := nI 1) hx hb dL_law_83 (by decide +kernel) ?_
        refine n_iadd hx hb dL_law_84 ?_
        refine n_sld hx hb hX hbl hbA hS (by omega) (by omega) dL_law_85 ?_
        refine lv_aload_n hx hb dL_law_86 rfl (lv_at hl 0 rfl) ?_
        refine lv_iload_n hx hb dL_law_87 rfl (lv_at hl 3 rfl) ?_
        refine lv_iconst (v := nI 2) hx hb dL_law_88 (by decide +kernel) ?_
        refine n_iadd hx hb dL_law_89 ?_
        refine n_sld hx hb hX hbl hbA hS (by omega) (by omega) dL_law_90 ?_
        refine lv_aload_n hx hb dL_law_91 rfl (lv_at hl 0 rfl) ?_
        refine lv_iload_n hx hb dL_law_92 rfl (lv_at hl 3 rfl) ?_
        refine lv_iconst (v := nI 3) hx hb dL_law_93 (by decide +kernel) ?_
        refine n_iadd hx hb dL_law_94 ?_
        refine n_sld hx hb hX hbl hbA hS (by omega) (by omega) dL_law_95 ?_
        refine lv_aload_n hx hb dL_law_96 rfl (lv_at hl 0 rfl) ?_
        refine lv_iload_n hx hb dL_law_97 rfl (lv_at hl 3 rfl) ?_
        refine lv_iconst (v := nI 4) hx hb dL_law_98 (by decide +kernel) ?_
        refine n_iadd hx hb dL_law_99 ?_
        refine n_sld hx hb hX hbl hbA hS (by omega) (by omega) dL_law_100 ?_
        refine n_calli (va_runV (As := [.int (xs (i + 1)), .int (xs (i + 2)), .int (xs (i + 3)), .int (xs (i + 4))]) (rest := []) ⟨hx, hb, hml, hown, hts⟩ (mx_put_x l D x0 c1 c2 t1 k1 o1 z lx bk d1 g (xs (i + 1)) (xs (i + 2)) (xs (i + 3)) (xs (i + 4)) hz ag H.size) (cwV 4 hts (lw_V q87 q88 q89 q3 q90) rfl rfl rfl (by decide +kernel) ⟨Nat.le_of_ble_eq_true rfl, Nat.le_of_ble_eq_true rfl⟩) (pcW_preV (hP.sub [0, 3] rfl) (hK.sub [0] rfl) (hD.sub [0, 3] (by decide) rfl) (va_recv hK hP (ci := 0) (q0 := 0) rfl rfl)) rfl rfl hl.1 rfl (lv_room (Nat.le_of_ble_eq_true rfl)) dL_law_101 ⟨by show _ ≤ 600384; omega, by show _ ≤ 7284202; omega⟩) hP hD hS hA [0, 3] rfl (fun _ => rfl) (fun rx u_x H locs hwx hP hD hS => ?_)
        have hP : va_P D vwCl [(x0, .inr (0, [.ref c1, .ref c2, .ref t1, .ref k1, .ref o1, .int (nI u_x.2), .int lx, .int (nI bk)])), (c1, .inr (2, [])), (c2, .inr (3, [])), (t1, .inl (d1, 16384, .inl u_x.1)), (k1, .inl (d2, 16464, .inl pk)), (o1, .inl (d3, 16384, .inl op)), (y0, .inr (1, [.ref u1, .ref v1, .ref w1, .int (nI z), .int lm, .int (nI bk)])), (u1, .inl (d4, 16384, .inl gm)), (v1, .inl (d5, 16384, .inl kp)), (w1, .inl (d6, 16384, .inl sh))] H := hP
        have hD : va_D A [(x0, .inr (0, [.ref c1, .ref c2, .ref t1, .ref k1, .ref o1, .int (nI u_x.2), .int lx, .int (nI bk)])), (c1, .inr (2, [])), (c2, .inr (3, [])), (t1, .inl (d1, 16384, .inl u_x.1)), (k1, .inl (d2, 16464, .inl pk)), (o1, .inl (d3, 16384, .inl op)), (y0, .inr (1, [.ref u1, .ref v1, .ref w1, .int (nI z), .int lm, .int (nI bk)])), (u1, .inl (d4, 16384, .inl gm)), (v1, .inl (d5, 16384, .inl kp)), (w1, .inl (d6, 16384, .inl sh))] := hD
        refine lv_aload_n hx hb dL_law_104 rfl (lv_at hl 2 rfl) ?_
        refine lv_aload_n hx hb dL_law_105 rfl (lv_at hl 0 rfl) ?_
        refine lv_iload_n hx hb dL_law_106 rfl (lv_at hl 3 rfl) ?_
        refine lv_iconst (v := nI 1) hx hb dL_law_107 (by decide +kernel) ?_
        refine n_iadd hx hb dL_law_108 ?_
        refine n_sld hx hb hX hbl hbA hS (by omega) (by omega) dL_law_109 ?_
        refine lv_aload_n hx hb dL_law_110 rfl (lv_at hl 0 rfl) ?_
        refine lv_iload_n hx hb dL_law_111 rfl (lv_at hl 3 rfl) ?_
        refine lv_iconst (v := nI 2) hx hb dL_law_112 (by decide +kernel) ?_
        refine n_iadd hx hb dL_law_113 ?_
        refine n_sld hx hb hX hbl hbA hS (by omega) (by omega) dL_law_114 ?_
        refine lv_aload_n hx hb dL_law_115 rfl (lv_at hl 0 rfl) ?_
        refine lv_iload_n hx hb dL_law_116 rfl (lv_at hl 3 rfl) ?_
        refine lv_iconst (v := nI 3) hx hb dL_law_117 (by decide +kernel) ?_
        refine n_iadd hx hb dL_law_118 ?_
        refine n_sld hx hb hX hbl hbA hS (by omega) (by omega) dL_law_119 ?_
        refine lv_aload_n hx hb dL_law_120 rfl (lv_at hl 0 rfl) ?_
        refine lv_iload_n hx hb dL_law_121 rfl (lv_at hl 3 rfl) ?_
        refine lv_iconst (v := nI 4) hx hb dL_law_122 (by decide +kernel) ?_
        refine n_iadd hx hb dL_law_123 ?_
        refine n_sld hx hb hX hbl hbA hS (by omega) (by omega) dL_law_124 ?_
        refine n_calli (va_runV (As := [.int (xs (i + 1)), .int (xs (i + 2)), .int (xs (i + 3)), .int (xs (i + 4))]) (rest := [.int rx]) ⟨hx, hb, hml, hown, hts⟩ (mx_put_m l D y0 u1 v1 w1 z lm bk d4 gm (xs (i + 1)) (xs (i + 2)) (xs (i + 3)) (xs (i + 4)) hz agm H.size) (cwV 4 hts (lw_V q645 q646 q647 q8 q648) rfl rfl rfl (by decide +kernel) ⟨Nat.le_of_ble_eq_true rfl, Nat.le_of_ble_eq_true rfl⟩) (pcW_preV (hP.sub [6, 7] rfl) (hK.sub [3] rfl) (hD.sub [6, 7] (by decide) rfl) (va_recv hK hP (ci := 1) (q0 := 6) rfl rfl)) rfl rfl hl.1 rfl (lv_room (Nat.le_of_ble_eq_true rfl)) dL_law_125 ⟨by show _ ≤ 600384; omega, by show _ ≤ 7284202; omega⟩) hP hD hS hA [6, 7] rfl (fun _ => rfl) (fun rm u_m H locs hwm hP hD hS => ?_)
        have hP : va_P D vwCl [(x0, .inr (0, [.ref c1, .ref c2, .ref t1, .ref k1, .ref o1, .int (nI u_x.2), .int lx, .int (nI bk)])), (c1, .inr (2, [])), (c2, .inr (3, [])), (t1, .inl (d1, 16384, .inl u_x.1)), (k1, .inl (d2, 16464, .inl pk)), (o1, .inl (d3, 16384, .inl op)), (y0, .inr (1, [.ref u1, .ref v1, .ref w1, .int (nI u_m.2), .int lm, .int (nI bk)])), (u1, .inl (d4, 16384, .inl u_m.1)), (v1, .inl (d5, 16384, .inl kp)), (w1, .inl (d6, 16384, .inl sh))] H := hP
        have hD : va_D A [(x0, .inr (0, [.ref c1, .ref c2, .ref t1, .ref k1, .ref o1, .int (nI u_x.2), .int lx, .int (nI bk)])), (c1, .inr (2, [])), (c2, .inr (3, [])), (t1, .inl (d1, 16384, .inl u_x.1)), (k1, .inl (d2, 16464, .inl pk)), (o1, .inl (d3, 16384, .inl op)), (y0, .inr (1, [.ref u1, .ref v1, .ref w1, .int (nI u_m.2), .int lm, .int (nI bk)])), (u1, .inl (d4, 16384, .inl u_m.1)), (v1, .inl (d5, 16384, .inl kp)), (w1, .inl (d6, 16384, .inl sh))] := hD
        obtain ⟨hr1, hz1, hz2, heq2, ag2, agm2⟩ := put_eq hz heq ag agm hwx hwm
        refine lv_icmp_eq (tgt := 282) hx hb dL_law_128 (by decide) (fun c__3 => ?_) (fun c__3 => absurd hr1 c__3)
        obtain ⟨gx, zx⟩ := u_x
        obtain ⟨gy, zy⟩ := u_m
        dsimp only at hz1 hz2 heq2 ag2 agm2
        subst hz1
        have hP : va_P D vwCl [(x0, .inr (0, [.ref c1, .ref c2, .ref t1, .ref k1, .ref o1, .int (nI zx), .int lx, .int (nI bk)])), (c1, .inr (2, [])), (c2, .inr (3, [])), (t1, .inl (d1, 16384, .inl gx)), (k1, .inl (d2, 16464, .inl pk)), (o1, .inl (d3, 16384, .inl op)), (y0, .inr (1, [.ref u1, .ref v1, .ref w1, .int (nI zx), .int lm, .int (nI bk)])), (u1, .inl (d4, 16384, .inl gy)), (v1, .inl (d5, 16384, .inl kp)), (w1, .inl (d6, 16384, .inl sh))] H := hP
        have hD : va_D A [(x0, .inr (0, [.ref c1, .ref c2, .ref t1, .ref k1, .ref o1, .int (nI zx), .int lx, .int (nI bk)])), (c1, .inr (2, [])), (c2, .inr (3, [])), (t1, .inl (d1, 16384, .inl gx)), (k1, .inl (d2, 16464, .inl pk)), (o1, .inl (d3, 16384, .inl op)), (y0, .inr (1, [.ref u1, .ref v1, .ref w1, .int (nI zx), .int lm, .int (nI bk)])), (u1, .inl (d4, 16384, .inl gy)), (v1, .inl (d5, 16384, .inl kp)), (w1, .inl (d6, 16384, .inl sh))] := hD
        refine lv_iinc (v := nI (i + 6)) (lv' := [(3, .int (nI (i + 6))), (0, .ref b), (1, .ref x0), (2, .ref y0)]) hx hb dL_law_282 hl (k := 3) rfl (n_inc _ 6 (by decide +kernel)) (by decide) rfl (fun ls hl => ?_)
        refine lv_goto (tgt := 18) hx hb dL_law_285 (by decide) ?_
        refine W.widen (k := 10 + (jj + 1)) (n := 98398 + 8192 * (jj + 1)) (by omega) (by omega) ?_
        exact ih (L - (i + 6)) (by omega) _ _ _ _ _ ⟨i + 6, jj + 1, zx, bk, n, lx, lm, gx, pk, op, gy, kp, sh, rfl, by omega, by omega, hz2, hbk, heq2, hln, hos, ag2, agm2, apk, akp, aop, ash, (lv_sub hl [1, 2, 3, 0] rfl), hP, hD, hS, rfl, rfl⟩
      · refine lv_tableIn (tgt := 133) hx hb dL_law_33 (by decide +kernel) (by decide +kernel) (off := 100) (by decide +kernel) (by decide) ?_
        refine lv_aload_n hx hb dL_law_133 rfl (lv_at hl 1 rfl) ?_
        refine lv_aload_n hx hb dL_law_134 rfl (lv_at hl 0 rfl) ?_
        refine lv_iload_n hx hb dL_law_135 rfl (lv_at hl 3 rfl) ?_
        refine lv_iconst (v := nI 1) hx hb dL_law_136 (by decide +kernel) ?_
        refine n_iadd hx hb dL_law_137 ?_
        refine n_sld hx hb hX hbl hbA hS (by omega) (by omega) dL_law_138 ?_
        refine lv_aload_n hx hb dL_law_139 rfl (lv_at hl 0 rfl) ?_
        refine lv_iload_n hx hb dL_law_140 rfl (lv_at hl 3 rfl) ?_
        refine lv_iconst (v := nI 2) hx hb dL_law_141 (by decide +kernel) ?_
        refine n_iadd hx hb dL_law_142 ?_
        refine n_sld hx hb hX hbl hbA hS (by omega) (by omega) dL_law_143 ?_
        refine n_calli (va_runV (As := [.int (xs (i + 1)), .int (xs (i + 2))]) (rest := []) ⟨hx, hb, hml, hown, hts⟩ (mx_repeat_x l D x0 c1 c2 t1 k1 o1 z lx bk d1 g (xs (i + 1)) (xs (i + 2)) hz ag H.size) (cwV 2 hts (lw_V q95 q96 q97 q3 q98) rfl rfl rfl (by decide +kernel) ⟨Nat.le_of_ble_eq_true rfl, Nat.le_of_ble_eq_true rfl⟩) (pcW_preV (hP.sub [0, 3] rfl) (hK.sub [0] rfl) (hD.sub [0, 3] (by decide) rfl) (va_recv hK hP (ci := 0) (q0 := 0) rfl rfl)) rfl rfl hl.1 rfl (lv_room (Nat.le_of_ble_eq_true rfl)) dL_law_144 ⟨by show _ ≤ 600384; omega, by show _ ≤ 7284202; omega⟩) hP hD hS hA [0, 3] rfl (fun _ => rfl) (fun rx u_x H locs hwx hP hD hS => ?_)
        have hP : va_P D vwCl [(x0, .inr (0, [.ref c1, .ref c2, .ref t1, .ref k1, .ref o1, .int (nI u_x.2), .int lx, .int (nI bk)])), (c1, .inr (2, [])), (c2, .inr (3, [])), (t1, .inl (d1, 16384, .inl u_x.1)), (k1, .inl (d2, 16464, .inl pk)), (o1, .inl (d3, 16384, .inl op)), (y0, .inr (1, [.ref u1, .ref v1, .ref w1, .int (nI z), .int lm, .int (nI bk)])), (u1, .inl (d4, 16384, .inl gm)), (v1, .inl (d5, 16384, .inl kp)), (w1, .inl (d6, 16384, .inl sh))] H := hP
        have hD : va_D A [(x0, .inr (0, [.ref c1, .ref c2, .ref t1, .ref k1, .ref o1, .int (nI u_x.2), .int lx, .int (nI bk)])), (c1, .inr (2, [])), (c2, .inr (3, [])), (t1, .inl (d1, 16384, .inl u_x.1)), (k1, .inl (d2, 16464, .inl pk)), (o1, .inl (d3, 16384, .inl op)), (y0, .inr (1, [.ref u1, .ref v1, .ref w1, .int (nI z), .int lm, .int (nI bk)])), (u1, .inl (d4, 16384, .inl gm)), (v1, .inl (d5, 16384, .inl kp)), (w1, .inl (d6, 16384, .inl sh))] := hD
        refine lv_aload_n hx hb dL_law_147 rfl (lv_at hl 2 rfl) ?_
        refine lv_aload_n hx hb dL_law_148 rfl (lv_at hl 0 rfl) ?_
        refine lv_iload_n hx hb dL_law_149 rfl (lv_at hl 3 rfl) ?_
        refine lv_iconst (v := nI 1) hx hb dL_law_150 (by decide +kernel) ?_
        refine n_iadd hx hb dL_law_151 ?_
        refine n_sld hx hb hX hbl hbA hS (by omega) (by omega) dL_law_152 ?_
        refine lv_aload_n hx hb dL_law_153 rfl (lv_at hl 0 rfl) ?_
        refine lv_iload_n hx hb dL_law_154 rfl (lv_at hl 3 rfl) ?_
        refine lv_iconst (v := nI 2) hx hb dL_law_155 (by decide +kernel) ?_
        refine n_iadd hx hb dL_law_156 ?_
        refine n_sld hx hb hX hbl hbA hS (by omega) (by omega) dL_law_157 ?_
        refine n_calli (va_runV (As := [.int (xs (i + 1)), .int (xs (i + 2))]) (rest := [.int rx]) ⟨hx, hb, hml, hown, hts⟩ (mx_repeat_m l D y0 u1 v1 w1 z lm bk d4 gm (xs (i + 1)) (xs (i + 2)) hz agm H.size) (cwV 2 hts (lw_V q649 q650 q651 q8 q652) rfl rfl rfl (by decide +kernel) ⟨Nat.le_of_ble_eq_true rfl, Nat.le_of_ble_eq_true rfl⟩) (pcW_preV (hP.sub [6, 7] rfl) (hK.sub [3] rfl) (hD.sub [6, 7] (by decide) rfl) (va_recv hK hP (ci := 1) (q0 := 6) rfl rfl)) rfl rfl hl.1 rfl (lv_room (Nat.le_of_ble_eq_true rfl)) dL_law_158 ⟨by show _ ≤ 600384; omega, by show _ ≤ 7284202; omega⟩) hP hD hS hA [6, 7] rfl (fun _ => rfl) (fun rm u_m H locs hwm hP hD hS => ?_)
        have hP : va_P D vwCl [(x0, .inr (0, [.ref c1, .ref c2, .ref t1, .ref k1, .ref o1, .int (nI u_x.2), .int lx, .int (nI bk)])), (c1, .inr (2, [])), (c2, .inr (3, [])), (t1, .inl (d1, 16384, .inl u_x.1)), (k1, .inl (d2, 16464, .inl pk)), (o1, .inl (d3, 16384, .inl op)), (y0, .inr (1, [.ref u1, .ref v1, .ref w1, .int (nI u_m.2), .int lm, .int (nI bk)])), (u1, .inl (d4, 16384, .inl u_m.1)), (v1, .inl (d5, 16384, .inl kp)), (w1, .inl (d6, 16384, .inl sh))] H := hP
        have hD : va_D A [(x0, .inr (0, [.ref c1, .ref c2, .ref t1, .ref k1, .ref o1, .int (nI u_x.2), .int lx, .int (nI bk)])), (c1, .inr (2, [])), (c2, .inr (3, [])), (t1, .inl (d1, 16384, .inl u_x.1)), (k1, .inl (d2, 16464, .inl pk)), (o1, .inl (d3, 16384, .inl op)), (y0, .inr (1, [.ref u1, .ref v1, .ref w1, .int (nI u_m.2), .int lm, .int (nI bk)])), (u1, .inl (d4, 16384, .inl u_m.1)), (v1, .inl (d5, 16384, .inl kp)), (w1, .inl (d6, 16384, .inl sh))] := hD
        obtain ⟨hr1, hz1, hz2, heq2, ag2, agm2⟩ := rep_eq hz heq ag agm hwx hwm
        refine lv_icmp_eq (tgt := 282) hx hb dL_law_161 (by decide) (fun c__4 => ?_) (fun c__4 => absurd hr1 c__4)
        obtain ⟨gx, zx⟩ := u_x
        obtain ⟨gy, zy⟩ := u_m
        dsimp only at hz1 hz2 heq2 ag2 agm2
        subst hz1
        have hP : va_P D vwCl [(x0, .inr (0, [.ref c1, .ref c2, .ref t1, .ref k1, .ref o1, .int (nI zx), .int lx, .int (nI bk)])), (c1, .inr (2, [])), (c2, .inr (3, [])), (t1, .inl (d1, 16384, .inl gx)), (k1, .inl (d2, 16464, .inl pk)), (o1, .inl (d3, 16384, .inl op)), (y0, .inr (1, [.ref u1, .ref v1, .ref w1, .int (nI zx), .int lm, .int (nI bk)])), (u1, .inl (d4, 16384, .inl gy)), (v1, .inl (d5, 16384, .inl kp)), (w1, .inl (d6, 16384, .inl sh))] H := hP
        have hD : va_D A [(x0, .inr (0, [.ref c1, .ref c2, .ref t1, .ref k1, .ref o1, .int (nI zx), .int lx, .int (nI bk)])), (c1, .inr (2, [])), (c2, .inr (3, [])), (t1, .inl (d1, 16384, .inl gx)), (k1, .inl (d2, 16464, .inl pk)), (o1, .inl (d3, 16384, .inl op)), (y0, .inr (1, [.ref u1, .ref v1, .ref w1, .int (nI zx), .int lm, .int (nI bk)])), (u1, .inl (d4, 16384, .inl gy)), (v1, .inl (d5, 16384, .inl kp)), (w1, .inl (d6, 16384, .inl sh))] := hD
        refine lv_iinc (v := nI (i + 6)) (lv' := [(3, .int (nI (i + 6))), (0, .ref b), (1, .ref x0), (2, .ref y0)]) hx hb dL_law_282 hl (k := 3) rfl (n_inc _ 6 (by decide +kernel)) (by decide) rfl (fun ls hl => ?_)
        refine lv_goto (tgt := 18) hx hb dL_law_285 (by decide) ?_
        refine W.widen (k := 10 + (jj + 1)) (n := 98398 + 8192 * (jj + 1)) (by omega) (by omega) ?_
        exact ih (L - (i + 6)) (by omega) _ _ _ _ _ ⟨i + 6, jj + 1, zx, bk, n, lx, lm, gx, pk, op, gy, kp, sh, rfl, by omega, by omega, hz2, hbk, heq2, hln, hos, ag2, agm2, apk, akp, aop, ash, (lv_sub hl [1, 2, 3, 0] rfl), hP, hD, hS, rfl, rfl⟩
      · refine lv_tableIn (tgt := 166) hx hb dL_law_33 (by decide +kernel) (by decide +kernel) (off := 133) (by decide +kernel) (by decide) ?_
        refine lv_aload_n hx hb dL_law_166 rfl (lv_at hl 1 rfl) ?_
        refine lv_aload_n hx hb dL_law_167 rfl (lv_at hl 0 rfl) ?_
        refine lv_iload_n hx hb dL_law_168 rfl (lv_at hl 3 rfl) ?_
        refine lv_iconst (v := nI 1) hx hb dL_law_169 (by decide +kernel) ?_
        refine n_iadd hx hb dL_law_170 ?_
        refine n_sld hx hb hX hbl hbA hS (by omega) (by omega) dL_law_171 ?_
        refine lv_aload_n hx hb dL_law_172 rfl (lv_at hl 0 rfl) ?_
        refine lv_iload_n hx hb dL_law_173 rfl (lv_at hl 3 rfl) ?_
        refine lv_iconst (v := nI 2) hx hb dL_law_174 (by decide +kernel) ?_
        refine n_iadd hx hb dL_law_175 ?_
        refine n_sld hx hb hX hbl hbA hS (by omega) (by omega) dL_law_176 ?_
        refine n_calli (va_runV (As := [.int (xs (i + 1)), .int (xs (i + 2))]) (rest := []) ⟨hx, hb, hml, hown, hts⟩ (mx_fill_x l D x0 c1 c2 t1 k1 o1 z lx bk d1 g (xs (i + 1)) (xs (i + 2)) hz ag H.size) (cwV 2 hts (lw_V q100 q101 q102 q3 q103) rfl rfl rfl (by decide +kernel) ⟨Nat.le_of_ble_eq_true rfl, Nat.le_of_ble_eq_true rfl⟩) (pcW_preV (hP.sub [0, 3] rfl) (hK.sub [0] rfl) (hD.sub [0, 3] (by decide) rfl) (va_recv hK hP (ci := 0) (q0 := 0) rfl rfl)) rfl rfl hl.1 rfl (lv_room (Nat.le_of_ble_eq_true rfl)) dL_law_177 ⟨by show _ ≤ 600384; omega, by show _ ≤ 7284202; omega⟩) hP hD hS hA [0, 3] rfl (fun _ => rfl) (fun rx u_x H locs hwx hP hD hS => ?_)
        have hP : va_P D vwCl [(x0, .inr (0, [.ref c1, .ref c2, .ref t1, .ref k1, .ref o1, .int (nI u_x.2), .int lx, .int (nI bk)])), (c1, .inr (2, [])), (c2, .inr (3, [])), (t1, .inl (d1, 16384, .inl u_x.1)), (k1, .inl (d2, 16464, .inl pk)), (o1, .inl (d3, 16384, .inl op)), (y0, .inr (1, [.ref u1, .ref v1, .ref w1, .int (nI z), .int lm, .int (nI bk)])), (u1, .inl (d4, 16384, .inl gm)), (v1, .inl (d5, 16384, .inl kp)), (w1, .inl (d6, 16384, .inl sh))] H := hP
        have hD : va_D A [(x0, .inr (0, [.ref c1, .ref c2, .ref t1, .ref k1, .ref o1, .int (nI u_x.2), .int lx, .int (nI bk)])), (c1, .inr (2, [])), (c2, .inr (3, [])), (t1, .inl (d1, 16384, .inl u_x.1)), (k1, .inl (d2, 16464, .inl pk)), (o1, .inl (d3, 16384, .inl op)), (y0, .inr (1, [.ref u1, .ref v1, .ref w1, .int (nI z), .int lm, .int (nI bk)])), (u1, .inl (d4, 16384, .inl gm)), (v1, .inl (d5, 16384, .inl kp)), (w1, .inl (d6, 16384, .inl sh))] := hD
        refine lv_aload_n hx hb dL_law_180 rfl (lv_at hl 2 rfl) ?_
        refine lv_aload_n hx hb dL_law_181 rfl (lv_at hl 0 rfl) ?_
        refine lv_iload_n hx hb dL_law_182 rfl (lv_at hl 3 rfl) ?_
        refine lv_iconst (v := nI 1) hx hb dL_law_183 (by decide +kernel) ?_
        refine n_iadd hx hb dL_law_184 ?_
        refine n_sld hx hb hX hbl hbA hS (by omega) (by omega) dL_law_185 ?_
        refine lv_aload_n hx hb dL_law_186 rfl (lv_at hl 0 rfl) ?_
        refine lv_iload_n hx hb dL_law_187 rfl (lv_at hl 3 rfl) ?_
        refine lv_iconst (v := nI 2) hx hb dL_law_188 (by decide +kernel) ?_
        refine n_iadd hx hb dL_law_189 ?_
        refine n_sld hx hb hX hbl hbA hS (by omega) (by omega) dL_law_190 ?_
        refine n_calli (va_runV (As := [.int (xs (i + 1)), .int (xs (i + 2))]) (rest := [.int rx]) ⟨hx, hb, hml, hown, hts⟩ (mx_fill_m l D y0 u1 v1 w1 z lm bk d4 gm (xs (i + 1)) (xs (i + 2)) hz agm H.size) (cwV 2 hts (lw_V q654 q655 q656 q8 q657) rfl rfl rfl (by decide +kernel) ⟨Nat.le_of_ble_eq_true rfl, Nat.le_of_ble_eq_true rfl⟩) (pcW_preV (hP.sub [6, 7] rfl) (hK.sub [3] rfl) (hD.sub [6, 7] (by decide) rfl) (va_recv hK hP (ci := 1) (q0 := 6) rfl rfl)) rfl rfl hl.1 rfl (lv_room (Nat.le_of_ble_eq_true rfl)) dL_law_191 ⟨by show _ ≤ 600384; omega, by show _ ≤ 7284202; omega⟩) hP hD hS hA [6, 7] rfl (fun _ => rfl) (fun rm u_m H locs hwm hP hD hS => ?_)
        have hP : va_P D vwCl [(x0, .inr (0, [.ref c1, .ref c2, .ref t1, .ref k1, .ref o1, .int (nI u_x.2), .int lx, .int (nI bk)])), (c1, .inr (2, [])), (c2, .inr (3, [])), (t1, .inl (d1, 16384, .inl u_x.1)), (k1, .inl (d2, 16464, .inl pk)), (o1, .inl (d3, 16384, .inl op)), (y0, .inr (1, [.ref u1, .ref v1, .ref w1, .int (nI u_m.2), .int lm, .int (nI bk)])), (u1, .inl (d4, 16384, .inl u_m.1)), (v1, .inl (d5, 16384, .inl kp)), (w1, .inl (d6, 16384, .inl sh))] H := hP
        have hD : va_D A [(x0, .inr (0, [.ref c1, .ref c2, .ref t1, .ref k1, .ref o1, .int (nI u_x.2), .int lx, .int (nI bk)])), (c1, .inr (2, [])), (c2, .inr (3, [])), (t1, .inl (d1, 16384, .inl u_x.1)), (k1, .inl (d2, 16464, .inl pk)), (o1, .inl (d3, 16384, .inl op)), (y0, .inr (1, [.ref u1, .ref v1, .ref w1, .int (nI u_m.2), .int lm, .int (nI bk)])), (u1, .inl (d4, 16384, .inl u_m.1)), (v1, .inl (d5, 16384, .inl kp)), (w1, .inl (d6, 16384, .inl sh))] := hD
        obtain ⟨hr1, hz1, hz2, heq2, ag2, agm2⟩ := fill_eq hz heq ag agm hwx hwm
        refine lv_icmp_eq (tgt := 282) hx hb dL_law_194 (by decide) (fun c__5 => ?_) (fun c__5 => absurd hr1 c__5)
        obtain ⟨gx, zx⟩ := u_x
        obtain ⟨gy, zy⟩ := u_m
        dsimp only at hz1 hz2 heq2 ag2 agm2
        subst hz1
        have hP : va_P D vwCl [(x0, .inr (0, [.ref c1, .ref c2, .ref t1, .ref k1, .ref o1, .int (nI zx), .int lx, .int (nI bk)])), (c1, .inr (2, [])), (c2, .inr (3, [])), (t1, .inl (d1, 16384, .inl gx)), (k1, .inl (d2, 16464, .inl pk)), (o1, .inl (d3, 16384, .inl op)), (y0, .inr (1, [.ref u1, .ref v1, .ref w1, .int (nI zx), .int lm, .int (nI bk)])), (u1, .inl (d4, 16384, .inl gy)), (v1, .inl (d5, 16384, .inl kp)), (w1, .inl (d6, 16384, .inl sh))] H := hP
        have hD : va_D A [(x0, .inr (0, [.ref c1, .ref c2, .ref t1, .ref k1, .ref o1, .int (nI zx), .int lx, .int (nI bk)])), (c1, .inr (2, [])), (c2, .inr (3, [])), (t1, .inl (d1, 16384, .inl gx)), (k1, .inl (d2, 16464, .inl pk)), (o1, .inl (d3, 16384, .inl op)), (y0, .inr (1, [.ref u1, .ref v1, .ref w1, .int (nI zx), .int lm, .int (nI bk)])), (u1, .inl (d4, 16384, .inl gy)), (v1, .inl (d5, 16384, .inl kp)), (w1, .inl (d6, 16384, .inl sh))] := hD
        refine lv_iinc (v := nI (i + 6)) (lv' := [(3, .int (nI (i + 6))), (0, .ref b), (1, .ref x0), (2, .ref y0)]) hx hb dL_law_282 hl (k := 3) rfl (n_inc _ 6 (by decide +kernel)) (by decide) rfl (fun ls hl => ?_)
        refine lv_goto (tgt := 18) hx hb dL_law_285 (by decide) ?_
        refine W.widen (k := 10 + (jj + 1)) (n := 98398 + 8192 * (jj + 1)) (by omega) (by omega) ?_
        exact ih (L - (i + 6)) (by omega) _ _ _ _ _ ⟨i + 6, jj + 1, zx, bk, n, lx, lm, gx, pk, op, gy, kp, sh, rfl, by omega, by omega, hz2, hbk, heq2, hln, hos, ag2, agm2, apk, akp, aop, ash, (lv_sub hl [1, 2, 3, 0] rfl), hP, hD, hS, rfl, rfl⟩
      · refine lv_tableIn (tgt := 199) hx hb dL_law_33 (by decide +kernel) (by decide +kernel) (off := 166) (by decide +kernel) (by decide) ?_
        refine lv_aload_n hx hb dL_law_199 rfl (lv_at hl 1 rfl) ?_
        refine lv_aload_n hx hb dL_law_200 rfl (lv_at hl 0 rfl) ?_
        refine lv_iload_n hx hb dL_law_201 rfl (lv_at hl 3 rfl) ?_
        refine lv_iconst (v := nI 1) hx hb dL_law_202 (by decide +kernel) ?_
        refine n_iadd hx hb dL_law_203 ?_
        refine n_sld hx hb hX hbl hbA hS (by omega) (by omega) dL_law_204 ?_
        refine n_callv (va_runV (As := [.int (xs (i + 1))]) (rest := []) ⟨hx, hb, hml, hown, hts⟩ (mx_trim_x l D x0 c1 c2 t1 k1 o1 z lx bk (xs (i + 1)) hz H.size) (cwV 1 hts (lw_V q104 q105 q106 q3 q107) rfl rfl rfl (by decide +kernel) ⟨Nat.le_of_ble_eq_true rfl, Nat.le_of_ble_eq_true rfl⟩) (pcW_preV (hP.sub [0] rfl) (hK.sub [] rfl) (hD.sub [0] (by decide) rfl) (va_recv hK hP (ci := 0) (q0 := 0) rfl rfl)) rfl rfl hl.1 rfl (lv_room (Nat.le_of_ble_eq_true rfl)) dL_law_205 ⟨by show _ ≤ 600384; omega, by show _ ≤ 7284202; omega⟩) hP hD hS hA [0] rfl (fun _ => rfl) (fun zx H locs hwx hP hD hS => ?_)
        have hP : va_P D vwCl [(x0, .inr (0, [.ref c1, .ref c2, .ref t1, .ref k1, .ref o1, .int (nI zx), .int lx, .int (nI bk)])), (c1, .inr (2, [])), (c2, .inr (3, [])), (t1, .inl (d1, 16384, .inl g)), (k1, .inl (d2, 16464, .inl pk)), (o1, .inl (d3, 16384, .inl op)), (y0, .inr (1, [.ref u1, .ref v1, .ref w1, .int (nI z), .int lm, .int (nI bk)])), (u1, .inl (d4, 16384, .inl gm)), (v1, .inl (d5, 16384, .inl kp)), (w1, .inl (d6, 16384, .inl sh))] H := hP
        have hD : va_D A [(x0, .inr (0, [.ref c1, .ref c2, .ref t1, .ref k1, .ref o1, .int (nI zx), .int lx, .int (nI bk)])), (c1, .inr (2, [])), (c2, .inr (3, [])), (t1, .inl (d1, 16384, .inl g)), (k1, .inl (d2, 16464, .inl pk)), (o1, .inl (d3, 16384, .inl op)), (y0, .inr (1, [.ref u1, .ref v1, .ref w1, .int (nI z), .int lm, .int (nI bk)])), (u1, .inl (d4, 16384, .inl gm)), (v1, .inl (d5, 16384, .inl kp)), (w1, .inl (d6, 16384, .inl sh))] := hD
        refine lv_aload_n hx hb dL_law_208 rfl (lv_at hl 2 rfl) ?_
        refine lv_aload_n hx hb dL_law_209 rfl (lv_at hl 0 rfl) ?_
        refine lv_iload_n hx hb dL_law_210 rfl (lv_at hl 3 rfl) ?_
        refine lv_iconst (v := nI 1) hx hb dL_law_211 (by decide +kernel) ?_
        refine n_iadd hx hb dL_law_212 ?_
        refine n_sld hx hb hX hbl hbA hS (by omega) (by omega) dL_law_213 ?_
        refine n_callv (va_runV (As := [.int (xs (i + 1))]) (rest := []) ⟨hx, hb, hml, hown, hts⟩ (mx_trim_m l D y0 u1 v1 w1 z lm bk (xs (i + 1)) hz H.size) (cwV 1 hts (lw_V q658 q659 q660 q8 q661) rfl rfl rfl (by decide +kernel) ⟨Nat.le_of_ble_eq_true rfl, Nat.le_of_ble_eq_true rfl⟩) (pcW_preV (hP.sub [6] rfl) (hK.sub [] rfl) (hD.sub [6] (by decide) rfl) (va_recv hK hP (ci := 1) (q0 := 6) rfl rfl)) rfl rfl hl.1 rfl (lv_room (Nat.le_of_ble_eq_true rfl)) dL_law_214 ⟨by show _ ≤ 600384; omega, by show _ ≤ 7284202; omega⟩) hP hD hS hA [6] rfl (fun _ => rfl) (fun zy H locs hwm hP hD hS => ?_)
        have hP : va_P D vwCl [(x0, .inr (0, [.ref c1, .ref c2, .ref t1, .ref k1, .ref o1, .int (nI zx), .int lx, .int (nI bk)])), (c1, .inr (2, [])), (c2, .inr (3, [])), (t1, .inl (d1, 16384, .inl g)), (k1, .inl (d2, 16464, .inl pk)), (o1, .inl (d3, 16384, .inl op)), (y0, .inr (1, [.ref u1, .ref v1, .ref w1, .int (nI zy), .int lm, .int (nI bk)])), (u1, .inl (d4, 16384, .inl gm)), (v1, .inl (d5, 16384, .inl kp)), (w1, .inl (d6, 16384, .inl sh))] H := hP
        have hD : va_D A [(x0, .inr (0, [.ref c1, .ref c2, .ref t1, .ref k1, .ref o1, .int (nI zx), .int lx, .int (nI bk)])), (c1, .inr (2, [])), (c2, .inr (3, [])), (t1, .inl (d1, 16384, .inl g)), (k1, .inl (d2, 16464, .inl pk)), (o1, .inl (d3, 16384, .inl op)), (y0, .inr (1, [.ref u1, .ref v1, .ref w1, .int (nI zy), .int lm, .int (nI bk)])), (u1, .inl (d4, 16384, .inl gm)), (v1, .inl (d5, 16384, .inl kp)), (w1, .inl (d6, 16384, .inl sh))] := hD
        have hzl : zx ≤ z := by rw [hwx]; exact Nat.le_of_lt_succ (Nat.mod_lt _ (by omega))
        rw [← hwx] at hwm
        subst hwm
        have hP : va_P D vwCl [(x0, .inr (0, [.ref c1, .ref c2, .ref t1, .ref k1, .ref o1, .int (nI zy), .int lx, .int (nI bk)])), (c1, .inr (2, [])), (c2, .inr (3, [])), (t1, .inl (d1, 16384, .inl g)), (k1, .inl (d2, 16464, .inl pk)), (o1, .inl (d3, 16384, .inl op)), (y0, .inr (1, [.ref u1, .ref v1, .ref w1, .int (nI zy), .int lm, .int (nI bk)])), (u1, .inl (d4, 16384, .inl gm)), (v1, .inl (d5, 16384, .inl kp)), (w1, .inl (d6, 16384, .inl sh))] H := hP
        have hD : va_D A [(x0, .inr (0, [.ref c1, .ref c2, .ref t1, .ref k1, .ref o1, .int (nI zy), .int lx, .int (nI bk)])), (c1, .inr (2, [])), (c2, .inr (3, [])), (t1, .inl (d1, 16384, .inl g)), (k1, .inl (d2, 16464, .inl pk)), (o1, .inl (d3, 16384, .inl op)), (y0, .inr (1, [.ref u1, .ref v1, .ref w1, .int (nI zy), .int lm, .int (nI bk)])), (u1, .inl (d4, 16384, .inl gm)), (v1, .inl (d5, 16384, .inl kp)), (w1, .inl (d6, 16384, .inl sh))] := hD
        refine lv_goto (tgt := 282) hx hb dL_law_217 (by decide) ?_
        refine lv_iinc (v := nI (i + 6)) (lv' := [(3, .int (nI (i + 6))), (0, .ref b), (1, .ref x0), (2, .ref y0)]) hx hb dL_law_282 hl (k := 3) rfl (n_inc _ 6 (by decide +kernel)) (by decide) rfl (fun ls hl => ?_)
        refine lv_goto (tgt := 18) hx hb dL_law_285 (by decide) ?_
        refine W.widen (k := 10 + (jj + 1)) (n := 98398 + 8192 * (jj + 1)) (by omega) (by omega) ?_
        exact ih (L - (i + 6)) (by omega) _ _ _ _ _ ⟨i + 6, jj + 1, zy, bk, n, lx, lm, g, pk, op, gm, kp, sh, rfl, by omega, by omega, by omega, hbk, fun j hj => heq j (by omega), hln, hos, ag, agm, apk, akp, aop, ash, (lv_sub hl [1, 2, 3, 0] rfl), hP, hD, hS, rfl, rfl⟩
      · refine lv_tableIn (tgt := 220) hx hb dL_law_33 (by decide +kernel) (by decide +kernel) (off := 187) (by decide +kernel) (by decide) ?_
        refine lv_aload_n hx hb dL_law_220 rfl (lv_at hl 1 rfl) ?_
        refine n_calli (va_runV (As := []) (rest := []) ⟨hx, hb, hml, hown, hts⟩ (mx_pack_x l D x0 c1 c2 t1 k1 o1 z lx bk d1 g d2 pk hz ag apk H.size) (cwV 0 hts (lw_V q108 q109 q110 q3 q111) rfl rfl rfl (by decide +kernel) ⟨Nat.le_of_ble_eq_true rfl, Nat.le_of_ble_eq_true rfl⟩) (pcZ_preV (hP.sub [0, 1, 3, 4] rfl) (hK.sub [0, 1] rfl) (hD.sub [0, 1, 3, 4] (by decide) rfl) (skZ_at hZ hS (va_free hD hS hA [0, 1, 3, 4] rfl)) (va_recv hK hP (ci := 0) (q0 := 0) rfl rfl)) rfl rfl hl.1 rfl (lv_room (Nat.le_of_ble_eq_true rfl)) dL_law_221 ⟨by show _ ≤ 600384; omega, by show _ ≤ 7284202; omega⟩) hP hD hS hA [0, 1, 3, 4] rfl (fun _ => rfl) (fun rx u_x H locs hwx hP hD hS => ?_)
        have hP : va_P D vwCl [(x0, .inr (0, [.ref c1, .ref c2, .ref t1, .ref k1, .ref o1, .int (nI z), .int u_x.2, .int (nI bk)])), (c1, .inr (2, [])), (c2, .inr (3, [])), (t1, .inl (d1, 16384, .inl g)), (k1, .inl (d2, 16464, .inl u_x.1)), (o1, .inl (d3, 16384, .inl op)), (y0, .inr (1, [.ref u1, .ref v1, .ref w1, .int (nI z), .int lm, .int (nI bk)])), (u1, .inl (d4, 16384, .inl gm)), (v1, .inl (d5, 16384, .inl kp)), (w1, .inl (d6, 16384, .inl sh))] H := hP
        have hD : va_D A [(x0, .inr (0, [.ref c1, .ref c2, .ref t1, .ref k1, .ref o1, .int (nI z), .int u_x.2, .int (nI bk)])), (c1, .inr (2, [])), (c2, .inr (3, [])), (t1, .inl (d1, 16384, .inl g)), (k1, .inl (d2, 16464, .inl u_x.1)), (o1, .inl (d3, 16384, .inl op)), (y0, .inr (1, [.ref u1, .ref v1, .ref w1, .int (nI z), .int lm, .int (nI bk)])), (u1, .inl (d4, 16384, .inl gm)), (v1, .inl (d5, 16384, .inl kp)), (w1, .inl (d6, 16384, .inl sh))] := hD
        refine lv_aload_n hx hb dL_law_224 rfl (lv_at hl 2 rfl) ?_
        refine n_calli (va_runV (As := []) (rest := [.int rx]) ⟨hx, hb, hml, hown, hts⟩ (mx_pack_m l D y0 u1 v1 w1 z lm bk d4 gm d5 kp hz agm akp H.size) (cwV 0 hts (lw_V q662 q663 q664 q8 q665) rfl rfl rfl (by decide +kernel) ⟨Nat.le_of_ble_eq_true rfl, Nat.le_of_ble_eq_true rfl⟩) (pcW_preV (hP.sub [6, 7, 8] rfl) (hK.sub [3, 4] rfl) (hD.sub [6, 7, 8] (by decide) rfl) (va_recv hK hP (ci := 1) (q0 := 6) rfl rfl)) rfl rfl hl.1 rfl (lv_room (Nat.le_of_ble_eq_true rfl)) dL_law_225 ⟨by show _ ≤ 600384; omega, by show _ ≤ 7284202; omega⟩) hP hD hS hA [6, 7, 8] rfl (fun _ => rfl) (fun rm u_m H locs hwm hP hD hS => ?_)
        have hP : va_P D vwCl [(x0, .inr (0, [.ref c1, .ref c2, .ref t1, .ref k1, .ref o1, .int (nI z), .int u_x.2, .int (nI bk)])), (c1, .inr (2, [])), (c2, .inr (3, [])), (t1, .inl (d1, 16384, .inl g)), (k1, .inl (d2, 16464, .inl u_x.1)), (o1, .inl (d3, 16384, .inl op)), (y0, .inr (1, [.ref u1, .ref v1, .ref w1, .int (nI z), .int u_m.2, .int (nI bk)])), (u1, .inl (d4, 16384, .inl gm)), (v1, .inl (d5, 16384, .inl u_m.1)), (w1, .inl (d6, 16384, .inl sh))] H := hP
        have hD : va_D A [(x0, .inr (0, [.ref c1, .ref c2, .ref t1, .ref k1, .ref o1, .int (nI z), .int u_x.2, .int (nI bk)])), (c1, .inr (2, [])), (c2, .inr (3, [])), (t1, .inl (d1, 16384, .inl g)), (k1, .inl (d2, 16464, .inl u_x.1)), (o1, .inl (d3, 16384, .inl op)), (y0, .inr (1, [.ref u1, .ref v1, .ref w1, .int (nI z), .int u_m.2, .int (nI bk)])), (u1, .inl (d4, 16384, .inl gm)), (v1, .inl (d5, 16384, .inl u_m.1)), (w1, .inl (d6, 16384, .inl sh))] := hD
        obtain ⟨hr1, e9, he1, he2, he3, apk2⟩ := hwx
        obtain ⟨hr2, hm1, hm2, akp2⟩ := hwm
        refine lv_icmp_eq (tgt := 282) hx hb dL_law_228 (by decide) (fun c__6 => ?_) (fun c__6 => absurd (hr1.trans hr2.symm) c__6)
        obtain ⟨px, lx2⟩ := u_x
        obtain ⟨py, lm2⟩ := u_m
        dsimp only at he1 he3 apk2 hm1 hm2 akp2
        have hP : va_P D vwCl [(x0, .inr (0, [.ref c1, .ref c2, .ref t1, .ref k1, .ref o1, .int (nI z), .int lx2, .int (nI bk)])), (c1, .inr (2, [])), (c2, .inr (3, [])), (t1, .inl (d1, 16384, .inl g)), (k1, .inl (d2, 16464, .inl px)), (o1, .inl (d3, 16384, .inl op)), (y0, .inr (1, [.ref u1, .ref v1, .ref w1, .int (nI z), .int lm2, .int (nI bk)])), (u1, .inl (d4, 16384, .inl gm)), (v1, .inl (d5, 16384, .inl py)), (w1, .inl (d6, 16384, .inl sh))] H := hP
        have hD : va_D A [(x0, .inr (0, [.ref c1, .ref c2, .ref t1, .ref k1, .ref o1, .int (nI z), .int lx2, .int (nI bk)])), (c1, .inr (2, [])), (c2, .inr (3, [])), (t1, .inl (d1, 16384, .inl g)), (k1, .inl (d2, 16464, .inl px)), (o1, .inl (d3, 16384, .inl op)), (y0, .inr (1, [.ref u1, .ref v1, .ref w1, .int (nI z), .int lm2, .int (nI bk)])), (u1, .inl (d4, 16384, .inl gm)), (v1, .inl (d5, 16384, .inl py)), (w1, .inl (d6, 16384, .inl sh))] := hD
        refine lv_iinc (v := nI (i + 6)) (lv' := [(3, .int (nI (i + 6))), (0, .ref b), (1, .ref x0), (2, .ref y0)]) hx hb dL_law_282 hl (k := 3) rfl (n_inc _ 6 (by decide +kernel)) (by decide) rfl (fun ls hl => ?_)
        refine lv_goto (tgt := 18) hx hb dL_law_285 (by decide) ?_
        refine W.widen (k := 10 + (jj + 1)) (n := 98398 + 8192 * (jj + 1)) (by omega) (by omega) ?_
        exact ih (L - (i + 6)) (by omega) _ _ _ _ _ ⟨i + 6, jj + 1, z, bk, z, lx2, lm2, g, px, op, gm, py, sh, rfl, by omega, by omega, hz, hbk, heq, Or.inr ⟨e9, he1, he2, he3.src (fun j hj => (hm2 j hj).trans (heq j hj).symm), hz, hm1⟩, hos, ag, agm, apk2, akp2, aop, ash, (lv_sub hl [1, 2, 3, 0] rfl), hP, hD, hS, rfl, rfl⟩
      · refine lv_tableIn (tgt := 233) hx hb dL_law_33 (by decide +kernel) (by decide +kernel) (off := 200) (by decide +kernel) (by decide) ?_
        refine lv_aload_n hx hb dL_law_233 rfl (lv_at hl 1 rfl) ?_
        refine n_calli (va_runV (As := []) (rest := []) ⟨hx, hb, hml, hown, hts⟩ (mx_open_x l D x0 c1 c2 t1 k1 o1 z lx bk d2 pk d3 op kp n hln.x apk aop H.size) (cwV 0 hts (lw_V q336 q337 q338 q3 q339) rfl rfl rfl (by decide +kernel) ⟨Nat.le_of_ble_eq_true rfl, Nat.le_of_ble_eq_true rfl⟩) (pcZ_preV (hP.sub [0, 2, 4, 5] rfl) (hK.sub [1, 2] rfl) (hD.sub [0, 2, 4, 5] (by decide) rfl) (skZ_at hZ hS (va_free hD hS hA [0, 2, 4, 5] rfl)) (va_recv hK hP (ci := 0) (q0 := 0) rfl rfl)) rfl rfl hl.1 rfl (lv_room (Nat.le_of_ble_eq_true rfl)) dL_law_234 ⟨by show _ ≤ 600384; omega, by show _ ≤ 7284202; omega⟩) hP hD hS hA [0, 2, 4, 5] rfl (fun _ => rfl) (fun rx u_x H locs hwx hP hD hS => ?_)
        have hP : va_P D vwCl [(x0, .inr (0, [.ref c1, .ref c2, .ref t1, .ref k1, .ref o1, .int (nI z), .int lx, .int (nI u_x.2)])), (c1, .inr (2, [])), (c2, .inr (3, [])), (t1, .inl (d1, 16384, .inl g)), (k1, .inl (d2, 16464, .inl pk)), (o1, .inl (d3, 16384, .inl u_x.1)), (y0, .inr (1, [.ref u1, .ref v1, .ref w1, .int (nI z), .int lm, .int (nI bk)])), (u1, .inl (d4, 16384, .inl gm)), (v1, .inl (d5, 16384, .inl kp)), (w1, .inl (d6, 16384, .inl sh))] H := hP
        have hD : va_D A [(x0, .inr (0, [.ref c1, .ref c2, .ref t1, .ref k1, .ref o1, .int (nI z), .int lx, .int (nI u_x.2)])), (c1, .inr (2, [])), (c2, .inr (3, [])), (t1, .inl (d1, 16384, .inl g)), (k1, .inl (d2, 16464, .inl pk)), (o1, .inl (d3, 16384, .inl u_x.1)), (y0, .inr (1, [.ref u1, .ref v1, .ref w1, .int (nI z), .int lm, .int (nI bk)])), (u1, .inl (d4, 16384, .inl gm)), (v1, .inl (d5, 16384, .inl kp)), (w1, .inl (d6, 16384, .inl sh))] := hD
        refine lv_aload_n hx hb dL_law_237 rfl (lv_at hl 2 rfl) ?_
        refine n_calli (va_runV (As := []) (rest := [.int rx]) ⟨hx, hb, hml, hown, hts⟩ (mx_open_m l D y0 u1 v1 w1 z lm bk d5 kp d6 sh n hln.m akp ash H.size) (cwV 0 hts (lw_V q666 q667 q668 q8 q669) rfl rfl rfl (by decide +kernel) ⟨Nat.le_of_ble_eq_true rfl, Nat.le_of_ble_eq_true rfl⟩) (pcW_preV (hP.sub [6, 8, 9] rfl) (hK.sub [4, 5] rfl) (hD.sub [6, 8, 9] (by decide) rfl) (va_recv hK hP (ci := 1) (q0 := 6) rfl rfl)) rfl rfl hl.1 rfl (lv_room (Nat.le_of_ble_eq_true rfl)) dL_law_238 ⟨by show _ ≤ 600384; omega, by show _ ≤ 7284202; omega⟩) hP hD hS hA [6, 8, 9] rfl (fun _ => rfl) (fun rm u_m H locs hwm hP hD hS => ?_)
        have hP : va_P D vwCl [(x0, .inr (0, [.ref c1, .ref c2, .ref t1, .ref k1, .ref o1, .int (nI z), .int lx, .int (nI u_x.2)])), (c1, .inr (2, [])), (c2, .inr (3, [])), (t1, .inl (d1, 16384, .inl g)), (k1, .inl (d2, 16464, .inl pk)), (o1, .inl (d3, 16384, .inl u_x.1)), (y0, .inr (1, [.ref u1, .ref v1, .ref w1, .int (nI z), .int lm, .int (nI u_m.2)])), (u1, .inl (d4, 16384, .inl gm)), (v1, .inl (d5, 16384, .inl kp)), (w1, .inl (d6, 16384, .inl u_m.1))] H := hP
        have hD : va_D A [(x0, .inr (0, [.ref c1, .ref c2, .ref t1, .ref k1, .ref o1, .int (nI z), .int lx, .int (nI u_x.2)])), (c1, .inr (2, [])), (c2, .inr (3, [])), (t1, .inl (d1, 16384, .inl g)), (k1, .inl (d2, 16464, .inl pk)), (o1, .inl (d3, 16384, .inl u_x.1)), (y0, .inr (1, [.ref u1, .ref v1, .ref w1, .int (nI z), .int lm, .int (nI u_m.2)])), (u1, .inl (d4, 16384, .inl gm)), (v1, .inl (d5, 16384, .inl kp)), (w1, .inl (d6, 16384, .inl u_m.1))] := hD
        obtain ⟨hr1, hb1, hb2, hos2, aop2, ash2⟩ := open_eq hbk hos hln hwx hwm
        refine lv_icmp_eq (tgt := 282) hx hb dL_law_241 (by decide) (fun c__7 => ?_) (fun c__7 => absurd hr1 c__7)
        obtain ⟨ox, bx⟩ := u_x
        obtain ⟨oy, by_⟩ := u_m
        dsimp only at hb1 hb2 hos2 aop2 ash2
        subst hb1
        have hP : va_P D vwCl [(x0, .inr (0, [.ref c1, .ref c2, .ref t1, .ref k1, .ref o1, .int (nI z), .int lx, .int (nI bx)])), (c1, .inr (2, [])), (c2, .inr (3, [])), (t1, .inl (d1, 16384, .inl g)), (k1, .inl (d2, 16464, .inl pk)), (o1, .inl (d3, 16384, .inl ox)), (y0, .inr (1, [.ref u1, .ref v1, .ref w1, .int (nI z), .int lm, .int (nI bx)])), (u1, .inl (d4, 16384, .inl gm)), (v1, .inl (d5, 16384, .inl kp)), (w1, .inl (d6, 16384, .inl oy))] H := hP
        have hD : va_D A [(x0, .inr (0, [.ref c1, .ref c2, .ref t1, .ref k1, .ref o1, .int (nI z), .int lx, .int (nI bx)])), (c1, .inr (2, [])), (c2, .inr (3, [])), (t1, .inl (d1, 16384, .inl g)), (k1, .inl (d2, 16464, .inl pk)), (o1, .inl (d3, 16384, .inl ox)), (y0, .inr (1, [.ref u1, .ref v1, .ref w1, .int (nI z), .int lm, .int (nI bx)])), (u1, .inl (d4, 16384, .inl gm)), (v1, .inl (d5, 16384, .inl kp)), (w1, .inl (d6, 16384, .inl oy))] := hD
        refine lv_iinc (v := nI (i + 6)) (lv' := [(3, .int (nI (i + 6))), (0, .ref b), (1, .ref x0), (2, .ref y0)]) hx hb dL_law_282 hl (k := 3) rfl (n_inc _ 6 (by decide +kernel)) (by decide) rfl (fun ls hl => ?_)
        refine lv_goto (tgt := 18) hx hb dL_law_285 (by decide) ?_
        refine W.widen (k := 10 + (jj + 1)) (n := 98398 + 8192 * (jj + 1)) (by omega) (by omega) ?_
        exact ih (L - (i + 6)) (by omega) _ _ _ _ _ ⟨i + 6, jj + 1, z, bx, n, lx, lm, g, pk, ox, gm, kp, oy, rfl, by omega, by omega, hz, hb2, heq, hln, hos2, ag, agm, apk, akp, aop2, ash2, (lv_sub hl [1, 2, 3, 0] rfl), hP, hD, hS, rfl, rfl⟩
      · refine lv_tableIn (tgt := 246) hx hb dL_law_33 (by decide +kernel) (by decide +kernel) (off := 213) (by decide +kernel) (by decide) ?_
        refine lv_aload_n hx hb dL_law_246 rfl (lv_at hl 1 rfl) ?_
        refine lv_aload_n hx hb dL_law_247 rfl (lv_at hl 0 rfl) ?_
        refine lv_iload_n hx hb dL_law_248 rfl (lv_at hl 3 rfl) ?_
        refine lv_iconst (v := nI 1) hx hb dL_law_249 (by decide +kernel) ?_
        refine n_iadd hx hb dL_law_250 ?_
        refine n_sld hx hb hX hbl hbA hS (by omega) (by omega) dL_law_251 ?_
        refine vp_callSi (W.runV (As := [.int (xs (i + 1))]) (rest := []) ⟨hx, hb, hml, hown, hts⟩ (mx_opened_x l D x0 c1 c2 t1 k1 o1 z lx bk d3 op (xs (i + 1)) hbk) (cwV 1 hts (lw_V q612 q613 q614 q3 q615) rfl rfl rfl (by decide +kernel) ⟨Nat.le_of_ble_eq_true rfl, Nat.le_of_ble_eq_true rfl⟩) (pcR_preV (hP.sub [0, 5] rfl) (hK.sub [2] rfl) (va_recv hK hP (ci := 0) (q0 := 0) rfl rfl)) rfl rfl hl.1 rfl (lv_room (Nat.le_of_ble_eq_true rfl)) dL_law_252 ⟨by show _ ≤ 600384; omega, by show _ ≤ 7284202; omega⟩) (fun rx hwx => ?_)
        refine lv_aload_n hx hb dL_law_255 rfl (lv_at hl 2 rfl) ?_
        refine lv_aload_n hx hb dL_law_256 rfl (lv_at hl 0 rfl) ?_
        refine lv_iload_n hx hb dL_law_257 rfl (lv_at hl 3 rfl) ?_
        refine lv_iconst (v := nI 1) hx hb dL_law_258 (by decide +kernel) ?_
        refine n_iadd hx hb dL_law_259 ?_
        refine n_sld hx hb hX hbl hbA hS (by omega) (by omega) dL_law_260 ?_
        refine vp_callSi (W.runV (As := [.int (xs (i + 1))]) (rest := [.int rx]) ⟨hx, hb, hml, hown, hts⟩ (mx_opened_m l D y0 u1 v1 w1 z lm bk d6 sh (xs (i + 1)) hbk) (cwV 1 hts (lw_V q670 q671 q672 q8 q673) rfl rfl rfl (by decide +kernel) ⟨Nat.le_of_ble_eq_true rfl, Nat.le_of_ble_eq_true rfl⟩) (pcR_preV (hP.sub [6, 9] rfl) (hK.sub [5] rfl) (va_recv hK hP (ci := 1) (q0 := 6) rfl rfl)) rfl rfl hl.1 rfl (lv_room (Nat.le_of_ble_eq_true rfl)) dL_law_261 ⟨by show _ ≤ 600384; omega, by show _ ≤ 7284202; omega⟩) (fun rm hwm => ?_)
        have hr1 : rx = rm := by
          rw [hwx, hwm]
          by_cases hb0 : bk = 0
          · rw [if_pos hb0, if_pos hb0]
          · rw [if_neg hb0, if_neg hb0, hos _ (Nat.mod_lt _ (by omega))]
        refine lv_icmp_eq (tgt := 282) hx hb dL_law_264 (by decide) (fun c__8 => ?_) (fun c__8 => absurd hr1 c__8)
        refine lv_iinc (v := nI (i + 6)) (lv' := [(3, .int (nI (i + 6))), (0, .ref b), (1, .ref x0), (2, .ref y0)]) hx hb dL_law_282 hl (k := 3) rfl (n_inc _ 6 (by decide +kernel)) (by decide) rfl (fun ls hl => ?_)
        refine lv_goto (tgt := 18) hx hb dL_law_285 (by decide) ?_
        refine W.widen (k := 10 + (jj + 1)) (n := 98398 + 8192 * (jj + 1)) (by omega) (by omega) ?_
        exact ih (L - (i + 6)) (by omega) _ _ _ _ _ ⟨i + 6, jj + 1, z, bk, n, lx, lm, g, pk, op, gm, kp, sh, rfl, by omega, by omega, hz, hbk, heq, hln, hos, ag, agm, apk, akp, aop, ash, (lv_sub hl [1, 2, 3, 0] rfl), hP, hD, hS, rfl, rfl⟩
      · refine lv_tableIn (tgt := 269) hx hb dL_law_33 (by decide +kernel) (by decide +kernel) (off := 236) (by decide +kernel) (by decide) ?_
        refine lv_aload_n hx hb dL_law_269 rfl (lv_at hl 1 rfl) ?_
        refine vp_callSi (W.runV (As := []) (rest := []) ⟨hx, hb, hml, hown, hts⟩ (mx_size_x l D x0 c1 c2 t1 k1 o1 z lx bk) (cwV 0 hts (lw_V q616 q617 q618 q3 q619) rfl rfl rfl (by decide +kernel) ⟨Nat.le_of_ble_eq_true rfl, Nat.le_of_ble_eq_true rfl⟩) (pcR_preV (hP.sub [0] rfl) (hK.sub [] rfl) (va_recv hK hP (ci := 0) (q0 := 0) rfl rfl)) rfl rfl hl.1 rfl (lv_room (Nat.le_of_ble_eq_true rfl)) dL_law_270 ⟨by show _ ≤ 600384; omega, by show _ ≤ 7284202; omega⟩) (fun rx hwx => ?_)
        refine lv_aload_n hx hb dL_law_273 rfl (lv_at hl 2 rfl) ?_
        refine vp_callSi (W.runV (As := []) (rest := [.int rx]) ⟨hx, hb, hml, hown, hts⟩ (mx_size_m l D y0 u1 v1 w1 z lm bk) (cwV 0 hts (lw_V q674 q675 q676 q8 q677) rfl rfl rfl (by decide +kernel) ⟨Nat.le_of_ble_eq_true rfl, Nat.le_of_ble_eq_true rfl⟩) (pcR_preV (hP.sub [6] rfl) (hK.sub [] rfl) (va_recv hK hP (ci := 1) (q0 := 6) rfl rfl)) rfl rfl hl.1 rfl (lv_room (Nat.le_of_ble_eq_true rfl)) dL_law_274 ⟨by show _ ≤ 600384; omega, by show _ ≤ 7284202; omega⟩) (fun rm hwm => ?_)
        refine lv_icmp_eq (tgt := 282) hx hb dL_law_277 (by decide) (fun c__9 => ?_) (fun c__9 => absurd (hwx.trans hwm.symm) c__9)
        refine lv_iinc (v := nI (i + 6)) (lv' := [(3, .int (nI (i + 6))), (0, .ref b), (1, .ref x0), (2, .ref y0)]) hx hb dL_law_282 hl (k := 3) rfl (n_inc _ 6 (by decide +kernel)) (by decide) rfl (fun ls hl => ?_)
        refine lv_goto (tgt := 18) hx hb dL_law_285 (by decide) ?_
        refine W.widen (k := 10 + (jj + 1)) (n := 98398 + 8192 * (jj + 1)) (by omega) (by omega) ?_
        exact ih (L - (i + 6)) (by omega) _ _ _ _ _ ⟨i + 6, jj + 1, z, bk, n, lx, lm, g, pk, op, gm, kp, sh, rfl, by omega, by omega, hz, hbk, heq, hln, hos, ag, agm, apk, akp, aop, ash, (lv_sub hl [1, 2, 3, 0] rfl), hP, hD, hS, rfl, rfl⟩
      · refine lv_tableOut (tgt := 282) hx hb dL_law_33 (Or.inr (by rw [hkI]; omega)) (by decide) ?_
        refine lv_iinc (v := nI (i + 6)) (lv' := [(3, .int (nI (i + 6))), (0, .ref b), (1, .ref x0), (2, .ref y0)]) hx hb dL_law_282 hl (k := 3) rfl (n_inc _ 6 (by decide +kernel)) (by decide) rfl (fun ls hl => ?_)
        refine lv_goto (tgt := 18) hx hb dL_law_285 (by decide) ?_
        refine W.widen (k := 10 + (jj + 1)) (n := 98398 + 8192 * (jj + 1)) (by omega) (by omega) ?_
        exact ih (L - (i + 6)) (by omega) _ _ _ _ _ ⟨i + 6, jj + 1, z, bk, n, lx, lm, g, pk, op, gm, kp, sh, rfl, by omega, by omega, hz, hbk, heq, hln, hos, ag, agm, apk, akp, aop, ash, (lv_sub hl [1, 2, 3, 0] rfl), hP, hD, hS, rfl, rfl⟩
end
section
set_option maxHeartbeats 4000000 in
set_option maxRecDepth 100000 in
/-- the law from its entry -/
theorem whole_start {p : Program} {e : Env} {s : State} {m : MethodId} {below : List Frame} {meth : Method} {c : Code} (l : Launch) (hflags : l.flags = flags0) {b L : Nat} {xs : Nat → Int32} (hL : L ≤ 384) (C0 : lw_At p s m meth c b L xs) : W p l e room_1 s m #[Value.ref b] below meth c s.heap [] 0 0 (lw_Z below #[Value.ref b] s) (entryFrame m ([Value.ref b] : List Value).toArray 4) := by
  obtain ⟨hx, hb, hr, hml, hown, hts0, hX, hbl, hlocks, hgv⟩ := id C0
  have hown : s.vm.findClass "BlockPackerLaw" = some m.cls := hown
  have hts : ∀ w ∈ lw_all, w.before #[Value.ref b] s = true := fun w h => hts0 w (lw_all_tbl h)
  obtain ⟨c0, i0, hK0⟩ := u_known (C := RX0) (T := TX0) (N := 8) (n := 8) hts in_X0 (hts _ q34)
  obtain ⟨c5, i5, hK5⟩ := u_known (C := RX5) (T := TX5) (N := 6) (n := 6) hts in_X5 (hts _ q621)
  obtain ⟨c2, i2, hK2⟩ := u_known (C := RX2) (T := TZ9) (N := 0) (n := 0) hts in_Z9 (hts _ q42)
  obtain ⟨c4, i4, hK4⟩ := u_known (C := RX4) (T := TZ9) (N := 0) (n := 0) hts in_Z9 (hts _ q52)
  obtain ⟨D, hKc⟩ : ∃ D : va_G, ∀ (k : Nat) (q : vw_C), vwCl[k]? = some q → u_Kn s q.1 q.2.1 q.2.2 (D.1 k) (D.2 k) := by
    refine ⟨(fun k => if k = 0 then c0 else if k = 1 then c5 else if k = 2 then c2 else c4, fun k => if k = 0 then i0 else if k = 1 then i5 else if k = 2 then i2 else i4), ?_⟩
    intro k q hq
    match k, hq with
    | 0, hq => cases hq; exact hK0
    | 1, hq => cases hq; exact hK5
    | 2, hq => cases hq; exact hK2
    | 3, hq => cases hq; exact hK4
    | k + 4, hq => simp [vwCl] at hq
  have hZ : skZ (fun q => s.heap.size ≤ q) s s.heap := by
    refine ⟨va_Zof (hts0 _ q217) (hts _ q17) (va_eqi (flat_of_before _ hgv _ (by decide +kernel))) (fun a h => Nat.not_le.mpr h), va_Nw.of rfl (hts0 _ q113), va_Nw.of rfl (hts0 _ q341)⟩
  obtain ⟨A, hAe⟩ : ∃ A : Nat → Prop, A = fun q => s.heap.size ≤ q := ⟨_, rfl⟩
  have hA : ∀ q : Nat, s.heap.size ≤ q → A q := fun q h => by rw [hAe]; exact h
  have hS : va_S A s.heap s.heap [] := va_S.rf
  have hK : va_K D vwCl [] s := ⟨hKc, fun k q h => by simp at h⟩
  have hP : va_P D vwCl [] s.heap := fun k q h => by simp at h
  have hD : va_D A [] := ⟨fun i j p q h => by simp at h, fun k q h => by simp at h⟩
  have hl := lv_entry ([.ref b]) (n := 4) (Nat.le_of_ble_eq_true rfl)
  rw [lg_entry_eq]
  generalize (lg_sl ([.ref b]) ++ List.replicate (4 - (lg_sl ([.ref b])).length) Slot.unset).toArray = ls at hl ⊢
  have hl : lv_has ls 4 [(0, .ref b)] := hl
  refine va_new (ci := 0) (fs := [.null, .null, .null, .null, .null, .int 0, .int 0, .int 0]) (C := RX0) (T := TX0) (N := 8) hx hb hts in_X0 tyX0 tyX0_ok hown (hts _ q33) (hts _ q34) (hts _ q3) hK hP hD hS hA rfl (fun j hj => by rcases (show j = 0 ∨ j = 1 ∨ j = 2 ∨ j = 3 ∨ j = 4 ∨ j = 5 ∨ j = 6 ∨ j = 7 by omega) with rfl | rfl | rfl | rfl | rfl | rfl | rfl | rfl <;> rfl) (Nat.le_of_ble_eq_true rfl) (Nat.le_of_ble_eq_true rfl) dL_law_0 (fun x0 H hP hD hS => ?_)
  have hP : va_P D vwCl [(x0, .inr (0, [.null, .null, .null, .null, .null, .int 0, .int 0, .int 0]))] H := hP
  have hD : va_D A [(x0, .inr (0, [.null, .null, .null, .null, .null, .int 0, .int 0, .int 0]))] := hD
  refine lv_dup hx hb dL_law_3 rfl ?_
  have hFc := va_free (wc := [(x0, .inr (0, [.null, .null, .null, .null, .null, .int 0, .int 0, .int 0]))]) hD hS hA [0] rfl
  refine va_callv (va_runI (As := []) (rest := [.ref x0]) ⟨hx, hb, hml, hown, hts⟩ (mi_X0 l D x0 H.size) (cwI 0 hts (lw_meth q37) rfl rfl rfl (hts _ q3) (hts _ q35) (hts _ q36) rfl (by decide +kernel) ⟨Nat.le_of_ble_eq_true rfl, Nat.le_of_ble_eq_true rfl⟩) (pcW_pre (hP.sub [0] rfl) (hK.sub [] rfl) (hD.sub [0] (by decide) rfl)) rfl rfl hl.1 rfl (lv_room (Nat.le_of_ble_eq_true rfl)) dL_law_4 ⟨Nat.le_of_ble_eq_true rfl, Nat.le_of_ble_eq_true rfl⟩) hS (fun q _ h => hFc q h) hFc (fun u t H1 locs ht hvm hw hB hz1 hk1 hS => ?_)
  obtain ⟨c1, c2, t1, k1, o1, d1, d2, d3, hP1, hK1, hD1⟩ := hB
  rw [ht] at hP1
  have hK1 := va_K.moved hvm.symm hK1
  obtain ⟨hP, hD⟩ := va_join (wc := [(x0, .inr (0, [.null, .null, .null, .null, .null, .int 0, .int 0, .int 0]))]) (wr := []) (w1 := [(x0, .inr (0, [.ref c1, .ref c2, .ref t1, .ref k1, .ref o1, .int (nI 0), .int ((-1)), .int (nI 0)])), (c1, .inr (2, [])), (c2, .inr (3, [])), (t1, .inl (d1, 16384, .inl ((fun _ => 0)))), (k1, .inl (d2, 16464, .inl ((fun _ => 0)))), (o1, .inl (d3, 16384, .inl ((fun _ => 0))))]) hP hD [0] [] rfl rfl (by decide) (by decide) hk1 hFc hP1 hD1
  have hK := hK.app hK1
  generalize H1 = H at hP hS ⊢
  have hK : va_K D vwCl [(d1, .byte), (d2, .byte), (d3, .byte)] s := hK
  have hP : va_P D vwCl [(x0, .inr (0, [.ref c1, .ref c2, .ref t1, .ref k1, .ref o1, .int (nI 0), .int ((-1)), .int (nI 0)])), (c1, .inr (2, [])), (c2, .inr (3, [])), (t1, .inl (d1, 16384, .inl ((fun _ => 0)))), (k1, .inl (d2, 16464, .inl ((fun _ => 0)))), (o1, .inl (d3, 16384, .inl ((fun _ => 0))))] H := hP
  have hD : va_D A [(x0, .inr (0, [.ref c1, .ref c2, .ref t1, .ref k1, .ref o1, .int (nI 0), .int ((-1)), .int (nI 0)])), (c1, .inr (2, [])), (c2, .inr (3, [])), (t1, .inl (d1, 16384, .inl ((fun _ => 0)))), (k1, .inl (d2, 16464, .inl ((fun _ => 0)))), (o1, .inl (d3, 16384, .inl ((fun _ => 0))))] := hD
  refine lv_astore_n (lv' := [(1, .ref x0), (0, .ref b)]) hx hb dL_law_7 rfl hl (by decide) rfl (fun ls hl => ?_)
  refine va_new (ci := 1) (fs := [.null, .null, .null, .int 0, .int 0, .int 0]) (C := RX5) (T := TX5) (N := 6) hx hb hts in_X5 tyX5 tyX5_ok hown (hts _ q620) (hts _ q621) (hts _ q8) hK hP hD hS hA rfl (fun j hj => by rcases (show j = 0 ∨ j = 1 ∨ j = 2 ∨ j = 3 ∨ j = 4 ∨ j = 5 by omega) with rfl | rfl | rfl | rfl | rfl | rfl <;> rfl) (Nat.le_of_ble_eq_true rfl) (Nat.le_of_ble_eq_true rfl) dL_law_8 (fun y0 H hP hD hS => ?_)
  have hP : va_P D vwCl [(x0, .inr (0, [.ref c1, .ref c2, .ref t1, .ref k1, .ref o1, .int (nI 0), .int ((-1)), .int (nI 0)])), (c1, .inr (2, [])), (c2, .inr (3, [])), (t1, .inl (d1, 16384, .inl ((fun _ => 0)))), (k1, .inl (d2, 16464, .inl ((fun _ => 0)))), (o1, .inl (d3, 16384, .inl ((fun _ => 0)))), (y0, .inr (1, [.null, .null, .null, .int 0, .int 0, .int 0]))] H := hP
  have hD : va_D A [(x0, .inr (0, [.ref c1, .ref c2, .ref t1, .ref k1, .ref o1, .int (nI 0), .int ((-1)), .int (nI 0)])), (c1, .inr (2, [])), (c2, .inr (3, [])), (t1, .inl (d1, 16384, .inl ((fun _ => 0)))), (k1, .inl (d2, 16464, .inl ((fun _ => 0)))), (o1, .inl (d3, 16384, .inl ((fun _ => 0)))), (y0, .inr (1, [.null, .null, .null, .int 0, .int 0, .int 0]))] := hD
  refine lv_dup hx hb dL_law_11 rfl ?_
  have hFc := va_free (wc := [(y0, .inr (1, [.null, .null, .null, .int 0, .int 0, .int 0]))]) hD hS hA [6] rfl
  refine va_callv (va_runI (As := []) (rest := [.ref y0]) ⟨hx, hb, hml, hown, hts⟩ (mi_X5 l D y0 H.size) (cwI 0 hts (lw_meth q624) rfl rfl rfl (hts _ q8) (hts _ q622) (hts _ q623) rfl (by decide +kernel) ⟨Nat.le_of_ble_eq_true rfl, Nat.le_of_ble_eq_true rfl⟩) (pcW_pre (hP.sub [6] rfl) (hK.sub [] rfl) (hD.sub [6] (by decide) rfl)) rfl rfl hl.1 rfl (lv_room (Nat.le_of_ble_eq_true rfl)) dL_law_12 ⟨Nat.le_of_ble_eq_true rfl, Nat.le_of_ble_eq_true rfl⟩) hS (fun q _ h => hFc q h) hFc (fun u t H1 locs ht hvm hw hB hz1 hk1 hS => ?_)
  obtain ⟨u1, v1, w1, d4, d5, d6, hP1, hK1, hD1⟩ := hB
  rw [ht] at hP1
  have hK1 := va_K.moved hvm.symm hK1
  obtain ⟨hP, hD⟩ := va_join (wc := [(y0, .inr (1, [.null, .null, .null, .int 0, .int 0, .int 0]))]) (wr := [(x0, .inr (0, [.ref c1, .ref c2, .ref t1, .ref k1, .ref o1, .int (nI 0), .int ((-1)), .int (nI 0)])), (c1, .inr (2, [])), (c2, .inr (3, [])), (t1, .inl (d1, 16384, .inl ((fun _ => 0)))), (k1, .inl (d2, 16464, .inl ((fun _ => 0)))), (o1, .inl (d3, 16384, .inl ((fun _ => 0))))]) (w1 := [(y0, .inr (1, [.ref u1, .ref v1, .ref w1, .int (nI 0), .int ((-1)), .int (nI 0)])), (u1, .inl (d4, 16384, .inl ((fun _ => 0)))), (v1, .inl (d5, 16384, .inl ((fun _ => 0)))), (w1, .inl (d6, 16384, .inl ((fun _ => 0))))]) hP hD [6] [0, 1, 2, 3, 4, 5] rfl rfl (by decide) (by decide) hk1 hFc hP1 hD1
  have hK := hK.app hK1
  generalize H1 = H at hP hS ⊢
  have hK : va_K D vwCl [(d1, .byte), (d2, .byte), (d3, .byte), (d4, .byte), (d5, .byte), (d6, .byte)] s := hK
  have hP : va_P D vwCl [(x0, .inr (0, [.ref c1, .ref c2, .ref t1, .ref k1, .ref o1, .int (nI 0), .int ((-1)), .int (nI 0)])), (c1, .inr (2, [])), (c2, .inr (3, [])), (t1, .inl (d1, 16384, .inl ((fun _ => 0)))), (k1, .inl (d2, 16464, .inl ((fun _ => 0)))), (o1, .inl (d3, 16384, .inl ((fun _ => 0)))), (y0, .inr (1, [.ref u1, .ref v1, .ref w1, .int (nI 0), .int ((-1)), .int (nI 0)])), (u1, .inl (d4, 16384, .inl ((fun _ => 0)))), (v1, .inl (d5, 16384, .inl ((fun _ => 0)))), (w1, .inl (d6, 16384, .inl ((fun _ => 0))))] H := hP
  have hD : va_D A [(x0, .inr (0, [.ref c1, .ref c2, .ref t1, .ref k1, .ref o1, .int (nI 0), .int ((-1)), .int (nI 0)])), (c1, .inr (2, [])), (c2, .inr (3, [])), (t1, .inl (d1, 16384, .inl ((fun _ => 0)))), (k1, .inl (d2, 16464, .inl ((fun _ => 0)))), (o1, .inl (d3, 16384, .inl ((fun _ => 0)))), (y0, .inr (1, [.ref u1, .ref v1, .ref w1, .int (nI 0), .int ((-1)), .int (nI 0)])), (u1, .inl (d4, 16384, .inl ((fun _ => 0)))), (v1, .inl (d5, 16384, .inl ((fun _ => 0)))), (w1, .inl (d6, 16384, .inl ((fun _ => 0))))] := hD
  refine lv_astore_n (lv' := [(2, .ref y0), (1, .ref x0), (0, .ref b)]) hx hb dL_law_15 rfl hl (by decide) rfl (fun ls hl => ?_)
  refine lv_iconst (v := nI 0) hx hb dL_law_16 (by decide +kernel) ?_
  refine lv_istore_n (lv' := [(3, .int (nI 0)), (2, .ref y0), (1, .ref x0), (0, .ref b)]) hx hb dL_law_17 rfl hl (by decide) rfl (fun ls hl => ?_)
  subst hAe
  exact law_loop l hL C0 D x0 c1 c2 t1 k1 o1 y0 u1 v1 w1 d1 d2 d3 d4 d5 d6 hK hZ hP hD hS (lv_sub hl [3, 2, 1, 0] rfl)
set_option maxHeartbeats 4000000 in
theorem lw_walk (l : Launch) (hflags : l.flags = flags0) (b : Addr) (xs : List Int32) : MetFree l x (headSpec (Jvm.Cond.code x code maxLocals ret :: tables_1) room_1) (lw_P b xs) (fun _ _ _ _ _ => True) lw_Q := by
  refine MetFree.of_bodyS (code := code) (maxLocals := maxLocals) (ret := ret) (by decide) ?_ ?_
  · intro args s m h hn
    obtain ⟨meth, c, h1, h2, h3, h4, h5, h6, -, -⟩ := Cond.code_spec hn (atoms_spec (ws := Jvm.Cond.code x code maxLocals ret :: tables_1) h _ List.mem_cons_self)
    exact ⟨meth, c, h1, h2, h3, h4, h5, h6⟩
  · intro p e s m args below meth c s₁ B hml0 hP _
    obtain ⟨rfl, hx, hbd, hgv⟩ := hP
    obtain ⟨scr, harrAt, hlist, hof, hsmall⟩ := hx
    obtain ⟨hcb, hkn, -, -⟩ := State.arrayAt?_spec harrAt
    have hown : s.vm.findClass R_law = some m.cls := findClass_of_methodNamed B.named
    have hts0 : ∀ c ∈ (Jvm.Cond.code x code maxLocals ret :: tables_1), c.before #[Value.ref b] s = true := atoms_spec (ws := Jvm.Cond.code x code maxLocals ret :: tables_1) B.pre
    have hts : ∀ w ∈ lw_tbl, w.before #[Value.ref b] s = true := k2_hts_sels lw_privs (fun w hw => hts0 w (List.mem_cons_of_mem _ hw)) lw_privs_ok
    have hml : c.maxLocals = 4 := B.maxLocals_eq (hts0 _ List.mem_cons_self)
    have X₀ : Stand p l e room_1 s m #[Value.ref b] below meth c s₁ [] 0 0 := Stand.of_body B
    have hh0 : s₁.heap = s.heap := by rw [B.state]; rfl
    have hsz : scr.slots.size = xs.length := by rw [← Array.length_toList, hlist, List.length_map]
    have hval : ∀ j : Nat, j < xs.length → scr.slots[j]? = some (.int (xs.getD j 0)) := fun j hj => by
      rw [← Array.getElem?_toList, hlist]
      simp [hj]
    have hbl : b < s.heap.size := (Array.getElem?_eq_some_iff.mp hcb).1
    have hX : va_X b xs.length (fun j => xs.getD j 0) s s.heap := ⟨scr, hcb, hof, hkn, hsz, hval⟩
    have K : W p l e room_1 s m #[Value.ref b] below meth c s₁.heap [] 0 0 (lw_Z below #[Value.ref b] s) (entryFrame m ([Value.ref b] : List Value).toArray 4) := by
      rw [hh0]
      exact whole_start l hflags hbd ⟨B.exec, B.bytes, B.returns, hml, hown, hts, hX, hbl, B.notSynchronized, hgv⟩
    obtain ⟨t, a1, o, b1, b2, b3⟩ := K s₁ rfl X₀
    exact ⟨t, o, a1, b1, b2, b3⟩
theorem lw_pre_spec {args : Array Value} {s : State} (h : (Jvm.Cond.and given_1 narrow_1).before args s = true) (hr : rest_1_c.before args s = true) : ∃ (b : Addr) (xs : List Int32), lw_P b xs args s := by
  have hs := flat_of_before _ h
  have hq := flat_of_before _ hr
  have hc : (Cond.count 1).before args s = true := hs _ (by decide +kernel)
  have harr : (Cond.arrayOf (.arg 0) .int).before args s = true := hs _ (by decide +kernel)
  have hle : (Cond.le (.length (.arg 0)) (.int 384)).before args s = true := hs _ (by decide +kernel)
  have hlen : (Cond.isInt (.length (.arg 0))).before args s = true := hq _ (by decide +kernel)
  have hall : (Cond.all (.arg 0) (.isInt (.elem (.arg 0) (.index 0)))).before args s = true := hq _ (by decide +kernel)
  obtain ⟨b, xs, hb, hx⟩ := State.ints_of_pre rfl harr hlen hall
  have hsm : xs.length < 2 ^ 31 := hx.choose_spec.2.2.2
  have hev : (Term.length (.arg 0)).eval args s none [] s = some (.int xs.length.toInt32) := hx.length_eval hb
  have hv := Cond.le_ints hev (show (Term.int 384).eval args s none [] s = some (.int 384) from rfl)
  have hd : xs.length.toInt32 ≤ 384 := by
    simpa [Cond.before, Cond.holds, hv] using hle
  have hN : xs.length ≤ 384 := (Int32.ofNat_le_ofNat hsm (by decide)).mp (show Int32.ofNat xs.length ≤ Int32.ofNat 384 from hd)
  exact ⟨b, xs, Cond.one_arg hc (show args[0]? = some (.ref b) from hb), hx, hN, h⟩
theorem lw_comes (l : Launch) (hflags : l.flags = flags0) : Comes l x (Jvm.Cond.code x code maxLocals ret :: tables_1) room_1 (fun tb e args s => Calls_1 tb e args s ∧ rest_1 tb e args s ∧ Pre_1 tb e args s)
    (fun _ _ args s o t => lw_Q args s o t) := by
  intro p e ha hc hk s m args below hf hfit hheap happ hpre
  obtain ⟨b, xs, hP⟩ := lw_pre_spec hpre.2.2 hpre.2.1
  obtain ⟨k, o, h1, h2, h3, hQ⟩ := lw_walk l hflags b xs p e ha hc hk s m args below hf ((Spec.applies_iff_loose hf).mp happ).1 hP trivial
  exact ⟨k, o, h1, h2, h3, hQ⟩
theorem lw_frame {s t : State} {o : Outcome} {args : Array Value} (h : Framed s o t [] 600384 7284202) :
    Framed s o t (fieldLocs frame_1_writes args s ++ arrayLocs frame_1_arrays args s ++ staticLocs frame_1_statics s) 600384 7284202 := h
theorem lw_limb (L : Cond) (hL : ∀ (args : Array Value) (s t : State), L.after args s (.returned (some (.int 1))) t = true) :
    ArmFor flags0 classFile x code maxLocals ret World_1 tables_1 room_1 Calls_1 rest_1 Pre_1
      (fun tb e a s o t => postC L tb e a s o t ∧ Framed s o t (fieldLocs frame_1_writes a s ++ arrayLocs frame_1_arrays a s ++ staticLocs frame_1_statics s) 600384 7284202) := by
  intro l hflags _ _ p e ha hc hk s m args below hf hfit hheap happ hpre
  obtain ⟨k, o, h1, h2, h3, rfl, hF⟩ := lw_comes l hflags p e ha hc hk s m args below hf hfit hheap happ hpre
  exact ⟨k, _, h1, h2, h3, hL args s _, lw_frame hF⟩
theorem i_vc : Claimed_1_1 ∧ Claimed_1_2 := ⟨lw_limb limb_1_1 (fun args s t => by simp [limb_1_1, Cond.after, Cond.holds, Cond.value]), lw_limb limb_1_2 (fun args s t => Cond.after_iff.mpr (by
  first | (rw [show limb_1_2 = Cond.eq .result (.int 1) from rfl, Cond.eq_ints (x := 1) (y := 1) rfl rfl]; simp; done) | (simp [limb_1_2, Cond.value, Term.eval]; done)))⟩
end
